import JvmDerived
import JvmDerived.Pilot.@@N@@Statement
import JvmDerived.Pilot.@@N@@Code
set_option linter.unusedVariables false
set_option linter.unusedSimpArgs false
namespace Jvm.RoadKit
open Sem ClassFile Op Lib Jvm.Stand Jvm.Free Jvm.LawKit
section New
variable {p : Program} {l : Launch} {e : Env} {R : Room} {s : State} {m : MethodId} {args : Array Value} {below : List Frame} {meth : Method} {c : Code} {T : State} {locs : List Loc} {cells slots : Nat}
theorem retI (X : Stand p l e R s m args below meth c T locs cells slots) (hx : p.tables.exec = Jvm.exec) {pc : Nat} {Ls : Array Slot} {z : Int32} {rest : List Value} (hret : meth.sig.returnType = some .int) (hd : decode c.code pc = .ok (.ireturn, 1)) {fs : List Frame}
    (hl : ∀ (f : JFrame) (acts : List Action), f.method = m → f.locked = none → f.entered = [] → (doReturn e (T.setTop f) acts (some (.int z))).1 = T.setFrames fs) : Steps p.tables e below (T.setTop (mkF m pc Ls (.int z :: rest))) (T.setFrames fs) := by
  have hm' : T.vm.method? m = some meth := X.method'
  have hn : narrow .int (.int z) = .int z := rfl
  show Steps p.tables e below (T.setTop { method := m, pc := pc, locals := Ls, stack := _ :: rest, locked := none }) _
  jvm_step X.here [X.here.top, hx, hd, hm', hret, hn]
  first | (intro acts; rw [hl _ acts rfl rfl rfl]) | rw [hl _ _ rfl rfl rfl]
  exact Steps.refl _
end New
end Jvm.RoadKit
namespace Jvm.Pilot.@@N@@
open Jvm Jvm.ClassFile Sem Op Lib Jvm.Free Jvm.Stand Jvm.LawKit Jvm.RoadKit Bundle Jvm.Pilot.@@N@@.Jvm.D
/-! The walk in a goal-driven form: own_Fin says that the run from A comes to an end at which Q holds, within the frame. -/
def own_Fin (p : Program) (e : Env) (below : List Frame) (s : State) (Q : Option Value → Heap → List Loc → Prop) (kc ks : Nat) (A : State) : Prop :=
  ∃ s₂ o, Steps p.tables e below A s₂ ∧ s₂.status = .running ∧ Ended s₂ below o ∧ ∃ v L, o = .returned v ∧ Q v s₂.heap L ∧ FrameEnd s o s₂ L kc ks
theorem own_Fin.go {p : Program} {e : Env} {below : List Frame} {s : State} {Q : Option Value → Heap → List Loc → Prop} {kc ks : Nat} {A B : State} (st : ∀ t, Steps p.tables e below B t → Steps p.tables e below A t) (h : own_Fin p e below s Q kc ks B) : own_Fin p e below s Q kc ks A := by
  obtain ⟨s₂, o, h1, h2⟩ := h
  exact ⟨s₂, o, st _ h1, h2⟩
section OwnRet
variable {p : Program} {l : Launch} {e : Env} {R : Room} {s : State} {m : MethodId} {args : Array Value} {below : List Frame} {meth : Method} {c : Code} {T : State} {locs : List Loc} {cells slots : Nat} {Q : Option Value → Heap → List Loc → Prop} {kc ks : Nat}
theorem own_end (X : Stand p l e R s m args below meth c T locs cells slots) {v : Option Value} (hv : meth.sig.returnType = none → v = none) (hlocks : meth.locks = false) (hc : cells ≤ kc) (hs : slots ≤ ks) {A : State}
    (h : ∀ fs : List Frame, (∀ (f : JFrame) (acts : List Action), f.method = m → f.locked = none → f.entered = [] → (doReturn e (T.setTop f) acts v).1 = T.setFrames fs) → Steps p.tables e below A (T.setFrames fs)) (hQ : Q v T.heap locs) : own_Fin p e below s Q kc ks A := by
  obtain ⟨fs, hr, hrun, hended, hW, hsame⟩ := X.leave (v := v) hv hlocks
  exact ⟨_, _, h fs hr, hrun, hended, _, _, rfl, hQ, ⟨_, rfl⟩, hW, hsame.mono hc hs⟩
theorem own_retN (X : Stand p l e R s m args below meth c T locs cells slots) (hx : p.tables.exec = Jvm.exec) {pc : Nat} {Ls : Array Slot} {z w : Int32} {t : FieldType} {rest : List Value} (hret : meth.sig.returnType = some t) (ht : t = .boolean ∨ t = .byte ∨ t = .char ∨ t = .short)
    (hd : decode c.code pc = .ok (.ireturn, 1)) (hlocks : meth.locks = false) (hw : nar t z = w) (hc : cells ≤ kc) (hs : slots ≤ ks) (hQ : Q (some (.int w)) T.heap locs) : own_Fin p e below s Q kc ks (T.setTop (mkF m pc Ls (.int z :: rest))) :=
  own_end X (v := some (.int w)) (fun h => by rw [hret] at h; cases h) hlocks hc hs (fun fs hr => retN X hx hret ht hd (by rw [hw]; exact hr)) hQ
theorem own_retI (X : Stand p l e R s m args below meth c T locs cells slots) (hx : p.tables.exec = Jvm.exec) {pc : Nat} {Ls : Array Slot} {z : Int32} {rest : List Value} (hret : meth.sig.returnType = some .int)
    (hd : decode c.code pc = .ok (.ireturn, 1)) (hlocks : meth.locks = false) (hc : cells ≤ kc) (hs : slots ≤ ks) (hQ : Q (some (.int z)) T.heap locs) : own_Fin p e below s Q kc ks (T.setTop (mkF m pc Ls (.int z :: rest))) :=
  own_end X (v := some (.int z)) (fun h => by rw [hret] at h; cases h) hlocks hc hs (fun fs hr => retI X hx hret hd hr) hQ
theorem own_retJ (X : Stand p l e R s m args below meth c T locs cells slots) (hx : p.tables.exec = Jvm.exec) {pc : Nat} {Ls : Array Slot} {z : Int64} (hret : meth.sig.returnType = some .long)
    (hd : decode c.code pc = .ok (.lreturn, 1)) (hlocks : meth.locks = false) (hc : cells ≤ kc) (hs : slots ≤ ks) (hQ : Q (some (.long z)) T.heap locs) : own_Fin p e below s Q kc ks (T.setTop (mkF m pc Ls [.long z])) :=
  own_end X (v := some (.long z)) (fun h => by rw [hret] at h; cases h) hlocks hc hs (fun fs hr => X.lreturnOut hx hret hd hr) hQ
theorem own_retA (X : Stand p l e R s m args below meth c T locs cells slots) (hx : p.tables.exec = Jvm.exec) {pc : Nat} {Ls : Array Slot} {a : Addr} {t : FieldType} {rest : List Value} (hret : meth.sig.returnType = some t) (ht : t.isReference = true)
    (hd : decode c.code pc = .ok (.areturn, 1)) (hlocks : meth.locks = false) (hc : cells ≤ kc) (hs : slots ≤ ks) (hQ : Q (some (.ref a)) T.heap locs) : own_Fin p e below s Q kc ks (T.setTop (mkF m pc Ls (.ref a :: rest))) :=
  own_end X (v := some (.ref a)) (fun h => by rw [hret] at h; cases h) hlocks hc hs (fun fs hr => retOut X hx hret (by cases t <;> first | rfl | (simp [FieldType.isReference] at ht)) (Or.inr (Or.inr (Or.inr (Or.inr ⟨rfl, ht, rfl⟩)))) hd hr) hQ
theorem own_ret0 (X : Stand p l e R s m args below meth c T locs cells slots) (hx : p.tables.exec = Jvm.exec) {pc : Nat} {Ls : Array Slot} (hret : meth.sig.returnType = none)
    (hd : decode c.code pc = .ok (.return_, 1)) (hlocks : meth.locks = false) (hc : cells ≤ kc) (hs : slots ≤ ks) (hQ : Q none T.heap locs) : own_Fin p e below s Q kc ks (T.setTop (mkF m pc Ls [])) :=
  own_end X (v := none) (fun _ => rfl) hlocks hc hs (fun fs hr => X.returnOut hx hret hd hr) hQ
end OwnRet
theorem own_selp {s : State} {args args' : Array Value} {C : String} {y w : MethodName} (hw : (Jvm.Cond.selects C w w).before args s = true) (hcls : w.cls = y.cls) (hpriv : s.PrivateAt y) (hinst : (Jvm.Cond.instanceMethod y).before args s = true) (hy : y.cls ≠ "java/lang/invoke/MethodHandle" ∧ y.cls ≠ "java/lang/invoke/VarHandle") : (Jvm.Cond.selects y.cls y y).before args' s = true := by
  obtain ⟨c2, r2, m2, -, -, q3, -, kP, hkP, hkPi⟩ := Cond.selects_spec hw
  exact selects_self_of_private (by rw [← hcls]; exact findClass_of_methodNamed q3) hkP hkPi hpriv hinst hy
def own_sl (LS : List Int32) (o n : Int32) : List Int32 := (List.range n.toNatClampNeg).map fun i => LS.getD (o.toNatClampNeg + i) 0
def own_cp (LB LS : List Int32) (s o n : Int32) : List Int32 := LB.take s.toNatClampNeg ++ own_sl LS o n ++ LB.drop (s.toNatClampNeg + n.toNatClampNeg)
def own_all (LB : List Int32) (t : Int32) : Int32 := if (∀ x ∈ LB.take t.toNatClampNeg, ¬ x < 0) then 1 else 0
def own_hit (LS : List Int32) (i o n : Int32) : Int32 := if i < o then 0 else if i < o + n then (if LS.getD i.toNatClampNeg 0 < 0 then 1 else 0) else 0
def own_bad (LS : List Int32) (o n : Int32) : Int32 := if own_hit LS 0 o n = 0 then (if own_hit LS 1 o n = 0 then (if own_hit LS 2 o n = 0 then (if own_hit LS 3 o n = 0 then (if own_hit LS 4 o n = 0 then (if own_hit LS 5 o n = 0 then (if own_hit LS 6 o n = 0 then (if own_hit LS 7 o n = 0 then (0) else 1) else 1) else 1) else 1) else 1) else 1) else 1) else 1
def own_bd (o n : Int32) : Prop := ¬ o < 0 ∧ ¬ n < 0 ∧ o.toInt + n.toInt ≤ 8
def own_ok (k : Int) (S : Int32) : Prop := ¬ S < 0 ∧ S.toInt ≤ k
theorem own_pad0 : ∀ i, ((List.replicate 1024 (0 : Int32)).map Value.int).getD i (.int 0) = ([] : List Value).getD i (.int 0) := fun i => by
  rw [List.map_replicate]; exact pad_rep [] (.int 0) 1024 i
theorem own_mapD (L : List Int32) (i : Nat) : (L.map Value.int).getD i (.int 0) = .int (L.getD i 0) := by
  simp only [List.getD_eq_getElem?_getD, List.getElem?_map]
  cases L[i]? <;> rfl
theorem own_nn {S : Int32} (h : ¬ S < 0) : S.toInt = (S.toNatClampNeg : Int) ∧ 0 ≤ S.toInt := by
  have e0 : (0 : Int32).toInt = 0 := rfl
  rw [Int32.lt_iff_toInt_lt] at h
  simp only [Int32.toNatClampNeg]; omega
theorem own_bds (d : Int32) : own_bd (d &&& (7 : Int32)) ((((d.toUInt32 >>> ((3 : Int32) &&& 31).toUInt32).toInt32) &&& (15 : Int32)) % ((9 : Int32) - (d &&& (7 : Int32)))) := by
  have h1 := c_mask d 7 3 (by decide) (by decide)
  have h2 := c_mask ((d.toUInt32 >>> ((3 : Int32) &&& 31).toUInt32).toInt32) 15 4 (by decide) (by decide)
  have h3 := c_isub 9 (d &&& 7)
  have r3 := rng32 (9 - (d &&& 7))
  have e9 : (9 : Int32).toInt = 9 := rfl
  have e0 : (0 : Int32).toInt = 0 := rfl
  have h4 := (c_iremV (((d.toUInt32 >>> ((3 : Int32) &&& 31).toUInt32).toInt32) &&& 15) (9 - (d &&& 7))).1 (by omega) (by omega)
  refine ⟨?_, ?_, ?_⟩
  · rw [Int32.lt_iff_toInt_lt]; omega
  · rw [Int32.lt_iff_toInt_lt]; omega
  · omega
theorem own_nz (d : Int32) : ((9 : Int32) - (d &&& (7 : Int32))) ≠ 0 := by
  have h1 := c_mask d 7 3 (by decide) (by decide)
  have h3 := c_isub 9 (d &&& 7)
  have e9 : (9 : Int32).toInt = 9 := rfl
  have e0 : (0 : Int32).toInt = 0 := rfl
  intro q
  rw [q] at h3
  omega
theorem own_next {k : Int} {S o n : Int32} (h : own_ok k S) (hk : k ≤ 50) (b : own_bd o n) : own_ok (k + 8) (S + n) ∧ (S + n).toNatClampNeg = S.toNatClampNeg + n.toNatClampNeg := by
  obtain ⟨h1, h2⟩ := h
  obtain ⟨b1, b2, b3⟩ := b
  have q1 := own_nn h1
  have q2 := own_nn b1
  have q3 := own_nn b2
  have q4 := c_iadd S n
  have q5 := rng32 (S + n)
  have e0 : (0 : Int32).toInt = 0 := rfl
  have q6 : (S + n).toInt = S.toInt + n.toInt := by omega
  refine ⟨⟨?_, by omega⟩, ?_⟩
  · rw [Int32.lt_iff_toInt_lt]; omega
  · simp only [Int32.toNatClampNeg] at *; omega
theorem own_room {S o n : Int32} (h : own_ok 100 S) (b : own_bd o n) : ¬ ((1024 : Int32) - S) < n := by
  obtain ⟨h1, h2⟩ := h
  obtain ⟨b1, b2, b3⟩ := b
  have q1 := own_nn h1
  have q2 := own_nn b1
  have q4 := c_isub 1024 S
  have q5 := rng32 (1024 - S)
  have e0 : (1024 : Int32).toInt = 1024 := rfl
  rw [Int32.lt_iff_toInt_lt]; omega
theorem own_room0 {o n : Int32} (b : own_bd o n) : ¬ (1024 : Int32) < n := by
  obtain ⟨b1, b2, b3⟩ := b
  have q2 := own_nn b1
  have e0 : (1024 : Int32).toInt = 1024 := rfl
  rw [Int32.lt_iff_toInt_lt]; omega
theorem own_c8 {o n : Int32} (b : own_bd o n) : o.toNatClampNeg + n.toNatClampNeg ≤ (8 : Int32).toNatClampNeg := by
  have q2 := own_nn b.1
  have q3 := own_nn b.2.1
  have q4 := b.2.2
  have e : (8 : Int32).toNatClampNeg = 8 := rfl
  omega
theorem own_c1024 {S o n : Int32} (h : own_ok 100 S) (b : own_bd o n) : S.toNatClampNeg + n.toNatClampNeg ≤ 1024 := by
  have q1 := own_nn h.1
  have q2 := own_nn b.1
  have q3 := own_nn b.2.1
  have q4 := b.2.2
  have q5 := h.2
  omega
theorem own_slLen (LS : List Int32) (o n : Int32) : (own_sl LS o n).length = n.toNatClampNeg := by simp [own_sl]
theorem own_cpLen {LB LS : List Int32} {S o n : Int32} (hL : LB.length = 1024) (h : own_ok 100 S) (b : own_bd o n) : (own_cp LB LS S o n).length = 1024 := by
  have q := own_c1024 h b
  simp only [own_cp, List.length_append, List.length_take, List.length_drop, own_slLen, hL]
  omega
theorem own_cpTake {LB LS : List Int32} {S o n : Int32} (hL : LB.length = 1024) (h : own_ok 100 S) (b : own_bd o n) : (own_cp LB LS S o n).take (S.toNatClampNeg + n.toNatClampNeg) = LB.take S.toNatClampNeg ++ own_sl LS o n := by
  have q := own_c1024 h b
  have l : (LB.take S.toNatClampNeg ++ own_sl LS o n).length = S.toNatClampNeg + n.toNatClampNeg := by
    simp only [List.length_append, List.length_take, own_slLen, hL]; omega
  unfold own_cp
  rw [← l, List.take_left']
  rfl
theorem own_hus (LS : List Int32) (o n : Int32) : ((own_sl LS o n).map Value.int) = (List.range n.toNatClampNeg).map fun i => (LS.map Value.int).getD (o.toNatClampNeg + i) (.int 0) := by
  unfold own_sl
  rw [List.map_map]
  exact List.map_congr_left fun i _ => (own_mapD LS _).symm
theorem own_cpMap (LB LS : List Int32) (S o n : Int32) : (LB.map Value.int).take S.toNatClampNeg ++ (own_sl LS o n).map Value.int ++ (LB.map Value.int).drop (S.toNatClampNeg + n.toNatClampNeg) = (own_cp LB LS S o n).map Value.int := by
  simp only [own_cp, List.map_append, List.map_take, List.map_drop]
theorem own_hit0 {LS : List Int32} {i o n : Int32} (h : own_hit LS i o n = 0) (h1 : ¬ i < o) (h2 : i < o + n) : ¬ LS.getD i.toNatClampNeg 0 < 0 := fun q => by
  rw [own_hit, if_neg h1, if_pos h2, if_pos q] at h
  exact absurd h (by decide)
theorem own_hit1 {LS : List Int32} {i o n : Int32} (h : ¬ own_hit LS i o n = 0) : ¬ i < o ∧ i < o + n ∧ LS.getD i.toNatClampNeg 0 < 0 := by
  unfold own_hit at h
  split at h
  · exact absurd rfl h
  · split at h
    · split at h
      · exact ⟨by assumption, by assumption, by assumption⟩
      · exact absurd rfl h
    · exact absurd rfl h
theorem own_badEx {LS : List Int32} {o n : Int32} (h : ¬ own_bad LS o n = 0) : ∃ i : Int32, ¬ i < 0 ∧ ¬ own_hit LS i o n = 0 := by
  unfold own_bad at h
  by_cases g0 : own_hit LS 0 o n = 0
  case neg => exact ⟨0, by decide, g0⟩
  rw [if_pos g0] at h
  by_cases g1 : own_hit LS 1 o n = 0
  case neg => exact ⟨1, by decide, g1⟩
  rw [if_pos g1] at h
  by_cases g2 : own_hit LS 2 o n = 0
  case neg => exact ⟨2, by decide, g2⟩
  rw [if_pos g2] at h
  by_cases g3 : own_hit LS 3 o n = 0
  case neg => exact ⟨3, by decide, g3⟩
  rw [if_pos g3] at h
  by_cases g4 : own_hit LS 4 o n = 0
  case neg => exact ⟨4, by decide, g4⟩
  rw [if_pos g4] at h
  by_cases g5 : own_hit LS 5 o n = 0
  case neg => exact ⟨5, by decide, g5⟩
  rw [if_pos g5] at h
  by_cases g6 : own_hit LS 6 o n = 0
  case neg => exact ⟨6, by decide, g6⟩
  rw [if_pos g6] at h
  by_cases g7 : own_hit LS 7 o n = 0
  case neg => exact ⟨7, by decide, g7⟩
  rw [if_pos g7] at h
  exact absurd rfl h
theorem own_bad0 {LS : List Int32} {o n : Int32} (h : own_bad LS o n = 0) : own_hit LS 0 o n = 0 ∧ own_hit LS 1 o n = 0 ∧ own_hit LS 2 o n = 0 ∧ own_hit LS 3 o n = 0 ∧ own_hit LS 4 o n = 0 ∧ own_hit LS 5 o n = 0 ∧ own_hit LS 6 o n = 0 ∧ own_hit LS 7 o n = 0 := by
  unfold own_bad at h
  by_cases g0 : own_hit LS 0 o n = 0
  case neg => rw [if_neg g0] at h; exact absurd h (by decide)
  rw [if_pos g0] at h
  by_cases g1 : own_hit LS 1 o n = 0
  case neg => rw [if_neg g1] at h; exact absurd h (by decide)
  rw [if_pos g1] at h
  by_cases g2 : own_hit LS 2 o n = 0
  case neg => rw [if_neg g2] at h; exact absurd h (by decide)
  rw [if_pos g2] at h
  by_cases g3 : own_hit LS 3 o n = 0
  case neg => rw [if_neg g3] at h; exact absurd h (by decide)
  rw [if_pos g3] at h
  by_cases g4 : own_hit LS 4 o n = 0
  case neg => rw [if_neg g4] at h; exact absurd h (by decide)
  rw [if_pos g4] at h
  by_cases g5 : own_hit LS 5 o n = 0
  case neg => rw [if_neg g5] at h; exact absurd h (by decide)
  rw [if_pos g5] at h
  by_cases g6 : own_hit LS 6 o n = 0
  case neg => rw [if_neg g6] at h; exact absurd h (by decide)
  rw [if_pos g6] at h
  by_cases g7 : own_hit LS 7 o n = 0
  case neg => rw [if_neg g7] at h; exact absurd h (by decide)
  rw [if_pos g7] at h
  exact ⟨g0, g1, g2, g3, g4, g5, g6, g7⟩
theorem own_good {LS : List Int32} {o n : Int32} (b : own_bd o n) (h : own_bad LS o n = 0) : ∀ x ∈ own_sl LS o n, ¬ x < 0 := by
  intro x hx
  simp only [own_sl, List.mem_map, List.mem_range] at hx
  obtain ⟨i, hi, rfl⟩ := hx
  obtain ⟨g0, g1, g2, g3, g4, g5, g6, g7⟩ := own_bad0 h
  have q1 := own_nn b.1
  have q2 := own_nn b.2.1
  have q3 := b.2.2
  have q4 := c_iadd o n
  have q5 := rng32 (o + n)
  have key : ∀ (k : Nat) (j : Int32), j.toInt = k → o.toNatClampNeg + i = k → own_hit LS j o n = 0 → ¬ LS.getD (o.toNatClampNeg + i) 0 < 0 := by
    intro k j e1 e2 e3
    have e4 : j.toNatClampNeg = o.toNatClampNeg + i := by simp only [Int32.toNatClampNeg] at *; omega
    have := own_hit0 e3 (by rw [Int32.lt_iff_toInt_lt]; omega) (by rw [Int32.lt_iff_toInt_lt]; omega)
    rw [e4] at this
    exact this
  have : o.toNatClampNeg + i = 0 ∨ o.toNatClampNeg + i = 1 ∨ o.toNatClampNeg + i = 2 ∨ o.toNatClampNeg + i = 3 ∨ o.toNatClampNeg + i = 4 ∨ o.toNatClampNeg + i = 5 ∨ o.toNatClampNeg + i = 6 ∨ o.toNatClampNeg + i = 7 := by omega
  rcases this with e | e | e | e | e | e | e | e
  · exact key 0 0 rfl e g0
  · exact key 1 1 rfl e g1
  · exact key 2 2 rfl e g2
  · exact key 3 3 rfl e g3
  · exact key 4 4 rfl e g4
  · exact key 5 5 rfl e g5
  · exact key 6 6 rfl e g6
  · exact key 7 7 rfl e g7
theorem own_evil {LS : List Int32} {o n : Int32} (b : own_bd o n) (h : ¬ own_bad LS o n = 0) : ∃ x ∈ own_sl LS o n, x < 0 := by
  obtain ⟨i, hi, h1⟩ := own_badEx h
  obtain ⟨a1, a2, a3⟩ := own_hit1 h1
  have q1 := own_nn b.1
  have q2 := own_nn b.2.1
  have q3 := b.2.2
  have q4 := c_iadd o n
  have q5 := rng32 (o + n)
  have q6 := own_nn hi
  rw [Int32.lt_iff_toInt_lt] at a1 a2
  refine ⟨_, List.mem_map.mpr ⟨i.toNatClampNeg - o.toNatClampNeg, List.mem_range.mpr (by omega), rfl⟩, ?_⟩
  have e : o.toNatClampNeg + (i.toNatClampNeg - o.toNatClampNeg) = i.toNatClampNeg := by omega
  rw [e]; exact a3
theorem own_app {a b : List Int32} (h1 : ∀ x ∈ a, ¬ x < 0) (h2 : ∀ x ∈ b, ¬ x < 0) : ∀ x ∈ a ++ b, ¬ x < 0 := fun x hx => (List.mem_append.mp hx).elim (h1 x) (h2 x)
theorem own_inl {a b : List Int32} (h : ∃ x ∈ a, x < 0) : ∃ x ∈ a ++ b, x < 0 := by obtain ⟨x, h1, h2⟩ := h; exact ⟨x, List.mem_append.mpr (Or.inl h1), h2⟩
theorem own_inr {a b : List Int32} (h : ∃ x ∈ b, x < 0) : ∃ x ∈ a ++ b, x < 0 := by obtain ⟨x, h1, h2⟩ := h; exact ⟨x, List.mem_append.mpr (Or.inr h1), h2⟩
theorem own_nil : ∀ x ∈ ([] : List Int32), ¬ x < 0 := fun _ h => nomatch h
theorem own_all1 {LB L : List Int32} {t : Int32} (h : LB.take t.toNatClampNeg = L) (g : ∀ x ∈ L, ¬ x < 0) : own_all LB t = 1 := if_pos (by rw [h]; exact g)
theorem own_all0 {LB L : List Int32} {t : Int32} (h : LB.take t.toNatClampNeg = L) (g : ∃ x ∈ L, x < 0) : own_all LB t = 0 := if_neg (by rw [h]; intro q; obtain ⟨x, h1, h2⟩ := g; exact q x h1 h2)
theorem own_seen {LB : List Int32} {i t : Int32} (hL : LB.length = 1024) (hi : ¬ i < 0) (ht : i < t) (h1024 : t.toInt ≤ 1024) (h : LB.getD i.toNatClampNeg 0 < 0) : own_all LB t = 0 := by
  refine own_all0 rfl ⟨_, ?_, h⟩
  have q := own_nn hi
  rw [Int32.lt_iff_toInt_lt] at ht
  have hlt : i.toNatClampNeg < LB.length := by omega
  have hlt2 : i.toNatClampNeg < t.toNatClampNeg := by simp only [Int32.toNatClampNeg] at *; omega
  rw [List.getD_eq_getElem?_getD, List.getElem?_eq_getElem hlt]
  exact List.mem_take_iff_getElem.mpr ⟨i.toNatClampNeg, by omega, rfl⟩
theorem own_more {LB : List Int32} {i : Int32} (hL : LB.length = 1024) (hi : ¬ i < 0) (h1024 : i.toInt < 1024) (hp : ∀ x ∈ LB.take i.toNatClampNeg, ¬ x < 0) (h : ¬ LB.getD i.toNatClampNeg 0 < 0) : ∀ x ∈ LB.take (i + 1).toNatClampNeg, ¬ x < 0 := by
  have q := own_nn hi
  have q4 := c_iadd i 1
  have q5 := rng32 (i + 1)
  have e1 : (1 : Int32).toInt = 1 := rfl
  have e : (i + 1).toNatClampNeg = i.toNatClampNeg + 1 := by simp only [Int32.toNatClampNeg] at *; omega
  have hlt : i.toNatClampNeg < LB.length := by omega
  rw [e, List.take_succ_eq_append_getElem hlt]
  refine own_app hp ?_
  intro x hx
  rw [List.mem_singleton] at hx
  subst hx
  rw [List.getD_eq_getElem?_getD, List.getElem?_eq_getElem hlt] at h
  exact h
theorem own_dini_0 : decode prog_16_method_1_code 0 = .ok (.aload_n 0, 1) := by decide +kernel
theorem own_dini_1 : decode prog_16_method_1_code 1 = .ok (.invokespecial 1, 3) := by decide +kernel
theorem own_dini_4 : decode prog_16_method_1_code 4 = .ok (.aload_n 0, 1) := by decide +kernel
theorem own_dini_5 : decode prog_16_method_1_code 5 = .ok (.sipush 1024, 3) := by decide +kernel
theorem own_dini_8 : decode prog_16_method_1_code 8 = .ok (.newarray .byte, 2) := by decide +kernel
theorem own_dini_10 : decode prog_16_method_1_code 10 = .ok (.putfield 9, 3) := by decide +kernel
theorem own_dini_13 : decode prog_16_method_1_code 13 = .ok (.aload_n 0, 1) := by decide +kernel
theorem own_dini_14 : decode prog_16_method_1_code 14 = .ok (.bipush 16, 2) := by decide +kernel
theorem own_dini_16 : decode prog_16_method_1_code 16 = .ok (.newarray .int, 2) := by decide +kernel
theorem own_dini_18 : decode prog_16_method_1_code 18 = .ok (.putfield 13, 3) := by decide +kernel
theorem own_dini_21 : decode prog_16_method_1_code 21 = .ok (.return_, 1) := by decide +kernel
theorem own_pn0 : plainName "com/example/wardkeeper/wardkeeper/hl7/Lines" = true := by first | (simp [plainName, overriddenIn]; done) | decide +kernel
theorem own_ef_ini (m : MethodId) (oa : Addr) : entryFrame m #[(.ref oa)] 1 = mkF m 0 #[.val (.ref oa)] [] := by first | (simp [entryFrame, mkF, argsToLocals, Value.category]; done) | rfl
def own_Q_ini (Z : State) (oa : Addr) (h0 : Heap) (n0 : Nat) (v : Option Value) (h : Heap) (L : List Loc) : Prop := ∃ ob : Addr, ∃ oe : Addr, ∃ kb : ClassId, ∃ ke : ClassId, v = none ∧ Fr n0 L ∧ Keep h0 h [oa] ∧ Exa Z h oa "com/example/wardkeeper/wardkeeper/hl7/Lines" ∧ Fld Z h oa "com/example/wardkeeper/wardkeeper/hl7/Lines" "bytes" "[B" (.ref ob) ∧ Fld Z h oa "com/example/wardkeeper/wardkeeper/hl7/Lines" "ends" "[I" (.ref oe) ∧ Fld Z h oa "com/example/wardkeeper/wardkeeper/hl7/Lines" "count" "I" (.int (0 : Int32)) ∧ Arv Z h ob kb .byte (1024 : Int32) ((List.replicate 1024 (0 : Int32)).map Value.int) (.int (0 : Int32)) ∧ Arv Z h oe ke .int (16 : Int32) [(.int (0 : Int32)), (.int (0 : Int32)), (.int (0 : Int32)), (.int (0 : Int32)), (.int (0 : Int32)), (.int (0 : Int32)), (.int (0 : Int32)), (.int (0 : Int32)), (.int (0 : Int32)), (.int (0 : Int32)), (.int (0 : Int32)), (.int (0 : Int32)), (.int (0 : Int32)), (.int (0 : Int32)), (.int (0 : Int32)), (.int (0 : Int32))] (.int (0 : Int32)) ∧ h0.size ≤ ob ∧ h0.size ≤ oe ∧ oa ≠ ob ∧ oa ≠ oe ∧ ob ≠ oe
set_option maxRecDepth 65536 in
set_option maxHeartbeats 40000000 in
theorem own_rm_ini (l : Launch) (Z : State) (a0 : Array Value) (hw : ∀ d ∈ tables_1, d.before a0 Z = true) (ws : List Jvm.Cond) (oa : Addr) (h0 : Heap) (n0 : Nat) (Z0 : n0 ≤ h0.size) (E_oa : Exa Z h0 oa "com/example/wardkeeper/wardkeeper/hl7/Lines") (F_oa_bytes : Fld Z h0 oa "com/example/wardkeeper/wardkeeper/hl7/Lines" "bytes" "[B" .null) (F_oa_ends : Fld Z h0 oa "com/example/wardkeeper/wardkeeper/hl7/Lines" "ends" "[I" .null) (F_oa_count : Fld Z h0 oa "com/example/wardkeeper/wardkeeper/hl7/Lines" "count" "I" (.int (0 : Int32))) (g_oa : n0 ≤ oa) :
    MetFree l (⟨"com/example/wardkeeper/wardkeeper/hl7/Lines", "<init>", "()V"⟩ : MethodName) (head1 (Jvm.Cond.code (⟨"com/example/wardkeeper/wardkeeper/hl7/Lines", "<init>", "()V"⟩ : MethodName) prog_16_method_1_code 1 none :: ws) ({ frames := 1, cells := 2, slots := 1040, locals := 12 } : Room)) (fun a U => a = #[(.ref oa)] ∧ Z.Warmed39 U.vm ∧ U.heap = h0) (fun _ _ _ _ _ => True) (fun _ U o U' => ∃ v L, o = .returned v ∧ own_Q_ini Z oa h0 n0 v U'.heap L ∧ FrameEnd U o U' L ({ frames := 1, cells := 2, slots := 1040, locals := 12 } : Room).cells ({ frames := 1, cells := 2, slots := 1040, locals := 12 } : Room).slots) := by
  refine MetFree.of_bodySF (plainFor_of_name own_pn0) hisR ?_
  intro p e s m args below meth c s₁ Bd hml0 hP hK
  obtain ⟨rfl, hZ, hh⟩ := hP
  have hx := Bd.exec
  have hby := Bd.bytes
  have hml : c.maxLocals = 1 := hml0
  have hown : s.vm.findClass "com/example/wardkeeper/wardkeeper/hl7/Lines" = some m.cls := findClass_of_methodNamed Bd.named
  have hnm := (name_of_methodNamed Bd.named Bd.method).1
  have X0 : Stand p l e ({ frames := 1, cells := 2, slots := 1040, locals := 12 } : Room) s m #[(.ref oa)] below meth c s₁ [] 0 0 := Stand.of_body Bd
  have e0 : s₁.heap = h0 := by rw [← hh, Bd.state]; rfl
  have N0 := Fr.nil n0
  have K0 := Keep.refl h0 [oa]
  show own_Fin p e below s (own_Q_ini Z oa h0 n0) ({ frames := 1, cells := 2, slots := 1040, locals := 12 } : Room).cells ({ frames := 1, cells := 2, slots := 1040, locals := 12 } : Room).slots (s₁.setTop (entryFrame m #[(.ref oa)] 1))
  refine own_Fin.go (fun t k => castTop (own_ef_ini m oa) k) ?_
  refine own_Fin.go (fun t k => XS.aloadN X0.here hx rfl (hb hby own_dini_0) rfl rfl k) ?_
  show own_Fin _ _ _ _ _ _ _ (s₁.setTop (mkF m 1 #[.val (.ref oa)] [(.ref oa)]))
  obtain ⟨T1, X1, e1, st1⟩ := initO X0 hx hZ hown (hw _ (List.mem_of_getElem? (i := 7) rfl)) (hw _ (List.mem_of_getElem? (i := 8) rfl)) (hw _ (List.mem_of_getElem? (i := 9) rfl)) e0 (g := (mkF m 1 #[.val (.ref oa)] [(.ref oa)])) rfl (by rw [hml]; rfl) rfl (hb hby own_dini_1) (by decide) (W := 0) (by show 2 * 0 + _ ≤ _; exact Nat.le_of_eq rfl) (by decide)
  refine own_Fin.go st1 ?_
  show own_Fin _ _ _ _ _ _ _ (T1.setTop (mkF m 4 #[.val (.ref oa)] []))
  refine own_Fin.go (fun t k => XS.aloadN X1.here hx rfl (hb hby own_dini_4) rfl rfl k) ?_
  show own_Fin _ _ _ _ _ _ _ (T1.setTop (mkF m 5 #[.val (.ref oa)] [(.ref oa)]))
  refine own_Fin.go (fun t k => XS.sipush X1.here hx rfl (hb hby own_dini_5) k) ?_
  show own_Fin _ _ _ _ _ _ _ (T1.setTop (mkF m 8 #[.val (.ref oa)] [(.int (1024 : Int32)), (.ref oa)]))
  obtain ⟨T2, h2, k2, X2, e2, E2, A2, st2⟩ := newP X1 hx hZ (hw _ (List.mem_of_getElem? (i := 0) rfl)) e1 (g := (mkF m 8 #[.val (.ref oa)] [(.int (1024 : Int32)), (.ref oa)])) rfl (hb hby own_dini_8) rfl (by decide) (cap := 1024) (by decide) (by decide) (by decide) (by decide)
  obtain ⟨b2, g2⟩ : ∃ z, z = h0.size := ⟨_, rfl⟩
  rw [← g2] at A2 st2
  refine own_Fin.go st2 ?_
  have g_b2 : n0 ≤ b2 := Nat.le_trans Z0 (Nat.le_of_eq g2.symm)
  have sz_b2 : h0.size ≤ b2 := Nat.le_trans K0.1 (Nat.le_of_eq g2.symm)
  have ne_oa_b2 : oa ≠ b2 := Nat.ne_of_lt (Nat.lt_of_lt_of_le F_oa_count.lt (Nat.le_of_eq g2.symm))
  have E_oa_2 := Exa.ext E2 E_oa
  have F_oa_bytes_2 := Fld.ext E2 F_oa_bytes
  have F_oa_ends_2 := Fld.ext E2 F_oa_ends
  have F_oa_count_2 := Fld.ext E2 F_oa_count
  have Z2 := Nat.le_trans Z0 E2.1
  have K2 := K0.ext E2
  have V_b2 : Arv Z h2 b2 k2 .byte (1024 : Int32) ((List.replicate 1024 (0 : Int32)).map Value.int) (.int (0 : Int32)) := (Arv.new A2 (by decide)).pad own_pad0
  show own_Fin _ _ _ _ _ _ _ (T2.setTop (mkF m 10 #[.val (.ref oa)] [(.ref b2), (.ref oa)]))
  obtain ⟨T3, h3, X3, e3, W3, st3⟩ := putF X2 hx hZ hown (host := "") (Or.inl (hw _ (List.mem_of_getElem? (i := 10) rfl))) Via.refl e2 F_oa_bytes_2 E_oa_2 (Or.inl (hw _ (List.mem_of_getElem? (i := 11) rfl))) (hw _ (List.mem_of_getElem? (i := 2) rfl)) (ty := (.array .byte)) (by decide) rfl rfl (g := (mkF m 10 #[.val (.ref oa)] [(.ref b2), (.ref oa)])) rfl rfl (hb hby own_dini_10)
  refine own_Fin.go st3 ?_
  have F_oa_bytes_3 := Fld.same W3 F_oa_bytes_2
  have E_oa_3 := Exa.wr W3 E_oa_2
  have F_oa_ends_3 := Fld.other W3 F_oa_ends_2 (Or.inr (slot_ne (Or.inl (hw _ (List.mem_of_getElem? (i := 14) rfl))) (Or.inl (hw _ (List.mem_of_getElem? (i := 11) rfl))) (by decide) (t := (.array .int)) (t' := (.array .byte)) (by decide) (by decide)))
  have F_oa_count_3 := Fld.other W3 F_oa_count_2 (Or.inr (slot_ne (Or.inl (hw _ (List.mem_of_getElem? (i := 21) rfl))) (Or.inl (hw _ (List.mem_of_getElem? (i := 11) rfl))) (by decide) (t := .int) (t' := (.array .byte)) (by decide) (by decide)))
  have V_b2_3 := Arv.other V_b2 W3 (Ne.symm ne_oa_b2)
  have Z3 := Nat.le_trans Z2 (Keep.of_wr W3).1
  have K3 := K2.wr W3 (Or.inl (List.mem_of_getElem? (i := 0) rfl))
  have N3 := Fr.snoc X3 N0 g_oa
  show own_Fin _ _ _ _ _ _ _ (T3.setTop (mkF m 13 #[.val (.ref oa)] []))
  refine own_Fin.go (fun t k => XS.aloadN X3.here hx rfl (hb hby own_dini_13) rfl rfl k) ?_
  show own_Fin _ _ _ _ _ _ _ (T3.setTop (mkF m 14 #[.val (.ref oa)] [(.ref oa)]))
  refine own_Fin.go (fun t k => XS.bipush X3.here hx rfl (hb hby own_dini_14) k) ?_
  show own_Fin _ _ _ _ _ _ _ (T3.setTop (mkF m 16 #[.val (.ref oa)] [(.int (16 : Int32)), (.ref oa)]))
  obtain ⟨T4, h4, k4, X4, e4, E4, A4, st4⟩ := newP X3 hx hZ (hw _ (List.mem_of_getElem? (i := 12) rfl)) e3 (g := (mkF m 16 #[.val (.ref oa)] [(.int (16 : Int32)), (.ref oa)])) rfl (hb hby own_dini_16) rfl (by decide) (cap := 16) (by decide) (by decide) (by decide) (by decide)
  obtain ⟨b4, g4⟩ : ∃ z, z = h3.size := ⟨_, rfl⟩
  rw [← g4] at A4 st4
  refine own_Fin.go st4 ?_
  have g_b4 : n0 ≤ b4 := Nat.le_trans Z3 (Nat.le_of_eq g4.symm)
  have sz_b4 : h0.size ≤ b4 := Nat.le_trans K3.1 (Nat.le_of_eq g4.symm)
  have ne_oa_b4 : oa ≠ b4 := Nat.ne_of_lt (Nat.lt_of_lt_of_le F_oa_count_3.lt (Nat.le_of_eq g4.symm))
  have ne_b2_b4 : b2 ≠ b4 := Nat.ne_of_lt (Nat.lt_of_lt_of_le V_b2_3.lt (Nat.le_of_eq g4.symm))
  have E_oa_4 := Exa.ext E4 E_oa_3
  have F_oa_bytes_4 := Fld.ext E4 F_oa_bytes_3
  have F_oa_ends_4 := Fld.ext E4 F_oa_ends_3
  have F_oa_count_4 := Fld.ext E4 F_oa_count_3
  have V_b2_4 := V_b2_3.ext E4
  have Z4 := Nat.le_trans Z3 E4.1
  have K4 := K3.ext E4
  have V_b4 : Arv Z h4 b4 k4 .int (16 : Int32) [(.int (0 : Int32)), (.int (0 : Int32)), (.int (0 : Int32)), (.int (0 : Int32)), (.int (0 : Int32)), (.int (0 : Int32)), (.int (0 : Int32)), (.int (0 : Int32)), (.int (0 : Int32)), (.int (0 : Int32)), (.int (0 : Int32)), (.int (0 : Int32)), (.int (0 : Int32)), (.int (0 : Int32)), (.int (0 : Int32)), (.int (0 : Int32))] (.int (0 : Int32)) := (Arv.new A4 (by decide)).pad (pad_rep [] (.int (0 : Int32)) 16)
  show own_Fin _ _ _ _ _ _ _ (T4.setTop (mkF m 18 #[.val (.ref oa)] [(.ref b4), (.ref oa)]))
  obtain ⟨T5, h5, X5, e5, W5, st5⟩ := putF X4 hx hZ hown (host := "") (Or.inl (hw _ (List.mem_of_getElem? (i := 13) rfl))) Via.refl e4 F_oa_ends_4 E_oa_4 (Or.inl (hw _ (List.mem_of_getElem? (i := 14) rfl))) (hw _ (List.mem_of_getElem? (i := 2) rfl)) (ty := (.array .int)) (by decide) rfl rfl (g := (mkF m 18 #[.val (.ref oa)] [(.ref b4), (.ref oa)])) rfl rfl (hb hby own_dini_18)
  refine own_Fin.go st5 ?_
  have F_oa_ends_5 := Fld.same W5 F_oa_ends_4
  have E_oa_5 := Exa.wr W5 E_oa_4
  have F_oa_bytes_5 := Fld.other W5 F_oa_bytes_4 (Or.inr (slot_ne (Or.inl (hw _ (List.mem_of_getElem? (i := 11) rfl))) (Or.inl (hw _ (List.mem_of_getElem? (i := 14) rfl))) (by decide) (t := (.array .byte)) (t' := (.array .int)) (by decide) (by decide)))
  have F_oa_count_5 := Fld.other W5 F_oa_count_4 (Or.inr (slot_ne (Or.inl (hw _ (List.mem_of_getElem? (i := 21) rfl))) (Or.inl (hw _ (List.mem_of_getElem? (i := 14) rfl))) (by decide) (t := .int) (t' := (.array .int)) (by decide) (by decide)))
  have V_b2_5 := Arv.other V_b2_4 W5 (Ne.symm ne_oa_b2)
  have V_b4_5 := Arv.other V_b4 W5 (Ne.symm ne_oa_b4)
  have Z5 := Nat.le_trans Z4 (Keep.of_wr W5).1
  have K5 := K4.wr W5 (Or.inl (List.mem_of_getElem? (i := 0) rfl))
  have N5 := Fr.snoc X5 N3 g_oa
  show own_Fin _ _ _ _ _ _ _ (T5.setTop (mkF m 21 #[.val (.ref oa)] []))
  refine own_ret0 X5 hx Bd.returns (hb hby own_dini_21) Bd.notSynchronized (by decide) (by decide) ?_
  rw [e5]
  exact ⟨b2, b4, k2, k4, rfl, N5, K5, E_oa_5, F_oa_bytes_5, F_oa_ends_5, F_oa_count_5, V_b2_5, V_b4_5, sz_b2, sz_b4, ne_oa_b2, ne_oa_b4, ne_b2_b4⟩
theorem own_dst0_0 : decode prog_16_method_9_code 0 = .ok (.iload_n 1, 1) := by decide +kernel
theorem own_dst0_1 : decode prog_16_method_9_code 1 = .ok (.ifCond .ne 7, 3) := by decide +kernel
theorem own_dst0_4 : decode prog_16_method_9_code 4 = .ok (.iconst 0, 1) := by decide +kernel
theorem own_dst0_5 : decode prog_16_method_9_code 5 = .ok (.goto 11, 3) := by decide +kernel
theorem own_dst0_16 : decode prog_16_method_9_code 16 = .ok (.ireturn, 1) := by decide +kernel
theorem own_ef_st0 (m : MethodId) (oa : Addr) : entryFrame m #[(.ref oa), (.int (0 : Int32))] 2 = mkF m 0 #[.val (.ref oa), .val (.int (0 : Int32))] [] := by first | (simp [entryFrame, mkF, argsToLocals, Value.category]; done) | rfl
def own_Q_st0 (Z : State) (oa : Addr) (h0 : Heap) (n0 : Nat) (v : Option Value) (h : Heap) (L : List Loc) : Prop := v = some (.int (0 : Int32)) ∧ Fr n0 L ∧ h = h0
set_option maxRecDepth 65536 in
set_option maxHeartbeats 40000000 in
theorem own_rm_st0 (l : Launch) (Z : State) (a0 : Array Value) (hw : ∀ d ∈ tables_1, d.before a0 Z = true) (ws : List Jvm.Cond) (oa : Addr) (h0 : Heap) (n0 : Nat) (Z0 : n0 ≤ h0.size) :
    MetFree l (⟨"com/example/wardkeeper/wardkeeper/hl7/Lines", "start", "(I)I"⟩ : MethodName) (head1 (Jvm.Cond.code (⟨"com/example/wardkeeper/wardkeeper/hl7/Lines", "start", "(I)I"⟩ : MethodName) prog_16_method_9_code 2 (some .int) :: ws) ({ frames := 0, cells := 0, slots := 0, locals := 0 } : Room)) (fun a U => a = #[(.ref oa), (.int (0 : Int32))] ∧ Z.Warmed39 U.vm ∧ U.heap = h0) (fun _ _ _ _ _ => True) (fun _ U o U' => ∃ v L, o = .returned v ∧ own_Q_st0 Z oa h0 n0 v U'.heap L ∧ FrameEnd U o U' L ({ frames := 0, cells := 0, slots := 0, locals := 0 } : Room).cells ({ frames := 0, cells := 0, slots := 0, locals := 0 } : Room).slots) := by
  refine MetFree.of_bodySF (plainFor_of_name own_pn0) hisR ?_
  intro p e s m args below meth c s₁ Bd hml0 hP hK
  obtain ⟨rfl, hZ, hh⟩ := hP
  have hx := Bd.exec
  have hby := Bd.bytes
  have hml : c.maxLocals = 2 := hml0
  have hown : s.vm.findClass "com/example/wardkeeper/wardkeeper/hl7/Lines" = some m.cls := findClass_of_methodNamed Bd.named
  have hnm := (name_of_methodNamed Bd.named Bd.method).1
  have X0 : Stand p l e ({ frames := 0, cells := 0, slots := 0, locals := 0 } : Room) s m #[(.ref oa), (.int (0 : Int32))] below meth c s₁ [] 0 0 := Stand.of_body Bd
  have e0 : s₁.heap = h0 := by rw [← hh, Bd.state]; rfl
  have N0 := Fr.nil n0
  show own_Fin p e below s (own_Q_st0 Z oa h0 n0) ({ frames := 0, cells := 0, slots := 0, locals := 0 } : Room).cells ({ frames := 0, cells := 0, slots := 0, locals := 0 } : Room).slots (s₁.setTop (entryFrame m #[(.ref oa), (.int (0 : Int32))] 2))
  refine own_Fin.go (fun t k => castTop (own_ef_st0 m oa) k) ?_
  refine own_Fin.go (fun t k => XS.iloadN X0.here hx rfl (hb hby own_dst0_0) rfl k) ?_
  show own_Fin _ _ _ _ _ _ _ (s₁.setTop (mkF m 1 #[.val (.ref oa), .val (.int (0 : Int32))] [(.int (0 : Int32))]))
  refine own_Fin.go (fun t k => XS.ifNo X0.here hx rfl (hb hby own_dst0_1) rfl (by decide) k) ?_
  show own_Fin _ _ _ _ _ _ _ (s₁.setTop (mkF m 4 #[.val (.ref oa), .val (.int (0 : Int32))] []))
  refine own_Fin.go (fun t k => XS.iconst X0.here hx rfl (hb hby own_dst0_4) k) ?_
  show own_Fin _ _ _ _ _ _ _ (s₁.setTop (mkF m 5 #[.val (.ref oa), .val (.int (0 : Int32))] [(.int (0 : Int32))]))
  refine own_Fin.go (fun t k => XS.goto X0.here hx rfl (pc0 := 5) (pc' := 16) rfl (hb hby own_dst0_5) (by decide) (by decide) k) ?_
  show own_Fin _ _ _ _ _ _ _ (s₁.setTop (mkF m 16 #[.val (.ref oa), .val (.int (0 : Int32))] [(.int (0 : Int32))]))
  refine own_retI X0 hx Bd.returns (hb hby own_dst0_16) Bd.notSynchronized (by decide) (by decide) ?_
  rw [e0]
  exact ⟨rfl, N0, rfl⟩
theorem own_dst1_0 : decode prog_16_method_9_code 0 = .ok (.iload_n 1, 1) := by decide +kernel
theorem own_dst1_1 : decode prog_16_method_9_code 1 = .ok (.ifCond .ne 7, 3) := by decide +kernel
theorem own_dst1_8 : decode prog_16_method_9_code 8 = .ok (.aload_n 0, 1) := by decide +kernel
theorem own_dst1_9 : decode prog_16_method_9_code 9 = .ok (.getfield 13, 3) := by decide +kernel
theorem own_dst1_12 : decode prog_16_method_9_code 12 = .ok (.iload_n 1, 1) := by decide +kernel
theorem own_dst1_13 : decode prog_16_method_9_code 13 = .ok (.iconst 1, 1) := by decide +kernel
theorem own_dst1_14 : decode prog_16_method_9_code 14 = .ok (.isub, 1) := by decide +kernel
theorem own_dst1_15 : decode prog_16_method_9_code 15 = .ok (.iaload, 1) := by decide +kernel
theorem own_dst1_16 : decode prog_16_method_9_code 16 = .ok (.ireturn, 1) := by decide +kernel
theorem own_ef_st1 (m : MethodId) (oa : Addr) : entryFrame m #[(.ref oa), (.int (1 : Int32))] 2 = mkF m 0 #[.val (.ref oa), .val (.int (1 : Int32))] [] := by first | (simp [entryFrame, mkF, argsToLocals, Value.category]; done) | rfl
def own_Q_st1 (Z : State) (oa : Addr) (oe : Addr) (ke : ClassId) (ea : Int32) (eb : Int32) (ec : Int32) (h0 : Heap) (n0 : Nat) (v : Option Value) (h : Heap) (L : List Loc) : Prop := v = some (.int ea) ∧ Fr n0 L ∧ h = h0
set_option maxRecDepth 65536 in
set_option maxHeartbeats 40000000 in
theorem own_rm_st1 (l : Launch) (Z : State) (a0 : Array Value) (hw : ∀ d ∈ tables_1, d.before a0 Z = true) (ws : List Jvm.Cond) (oa : Addr) (oe : Addr) (ke : ClassId) (ea : Int32) (eb : Int32) (ec : Int32) (h0 : Heap) (n0 : Nat) (Z0 : n0 ≤ h0.size) (F_oa_ends : Fld Z h0 oa "com/example/wardkeeper/wardkeeper/hl7/Lines" "ends" "[I" (.ref oe)) (V_oe : Arv Z h0 oe ke .int (16 : Int32) [(.int ea), (.int eb), (.int ec), (.int (0 : Int32)), (.int (0 : Int32)), (.int (0 : Int32)), (.int (0 : Int32)), (.int (0 : Int32)), (.int (0 : Int32)), (.int (0 : Int32)), (.int (0 : Int32)), (.int (0 : Int32)), (.int (0 : Int32)), (.int (0 : Int32)), (.int (0 : Int32)), (.int (0 : Int32))] (.int (0 : Int32))) :
    MetFree l (⟨"com/example/wardkeeper/wardkeeper/hl7/Lines", "start", "(I)I"⟩ : MethodName) (head1 (Jvm.Cond.code (⟨"com/example/wardkeeper/wardkeeper/hl7/Lines", "start", "(I)I"⟩ : MethodName) prog_16_method_9_code 2 (some .int) :: ws) ({ frames := 0, cells := 0, slots := 0, locals := 0 } : Room)) (fun a U => a = #[(.ref oa), (.int (1 : Int32))] ∧ Z.Warmed39 U.vm ∧ U.heap = h0) (fun _ _ _ _ _ => True) (fun _ U o U' => ∃ v L, o = .returned v ∧ own_Q_st1 Z oa oe ke ea eb ec h0 n0 v U'.heap L ∧ FrameEnd U o U' L ({ frames := 0, cells := 0, slots := 0, locals := 0 } : Room).cells ({ frames := 0, cells := 0, slots := 0, locals := 0 } : Room).slots) := by
  refine MetFree.of_bodySF (plainFor_of_name own_pn0) hisR ?_
  intro p e s m args below meth c s₁ Bd hml0 hP hK
  obtain ⟨rfl, hZ, hh⟩ := hP
  have hx := Bd.exec
  have hby := Bd.bytes
  have hml : c.maxLocals = 2 := hml0
  have hown : s.vm.findClass "com/example/wardkeeper/wardkeeper/hl7/Lines" = some m.cls := findClass_of_methodNamed Bd.named
  have hnm := (name_of_methodNamed Bd.named Bd.method).1
  have X0 : Stand p l e ({ frames := 0, cells := 0, slots := 0, locals := 0 } : Room) s m #[(.ref oa), (.int (1 : Int32))] below meth c s₁ [] 0 0 := Stand.of_body Bd
  have e0 : s₁.heap = h0 := by rw [← hh, Bd.state]; rfl
  have N0 := Fr.nil n0
  show own_Fin p e below s (own_Q_st1 Z oa oe ke ea eb ec h0 n0) ({ frames := 0, cells := 0, slots := 0, locals := 0 } : Room).cells ({ frames := 0, cells := 0, slots := 0, locals := 0 } : Room).slots (s₁.setTop (entryFrame m #[(.ref oa), (.int (1 : Int32))] 2))
  refine own_Fin.go (fun t k => castTop (own_ef_st1 m oa) k) ?_
  refine own_Fin.go (fun t k => XS.iloadN X0.here hx rfl (hb hby own_dst1_0) rfl k) ?_
  show own_Fin _ _ _ _ _ _ _ (s₁.setTop (mkF m 1 #[.val (.ref oa), .val (.int (1 : Int32))] [(.int (1 : Int32))]))
  refine own_Fin.go (fun t k => XS.ifYes X0.here hx rfl (pc0 := 1) (pc' := 8) rfl (hb hby own_dst1_1) rfl (by decide) (by decide) (by decide) k) ?_
  show own_Fin _ _ _ _ _ _ _ (s₁.setTop (mkF m 8 #[.val (.ref oa), .val (.int (1 : Int32))] []))
  refine own_Fin.go (fun t k => XS.aloadN X0.here hx rfl (hb hby own_dst1_8) rfl rfl k) ?_
  show own_Fin _ _ _ _ _ _ _ (s₁.setTop (mkF m 9 #[.val (.ref oa), .val (.int (1 : Int32))] [(.ref oa)]))
  obtain ⟨T1, X1, e1, st1⟩ := getF X0 hx hZ hown (host := "") (Or.inl (hw _ (List.mem_of_getElem? (i := 13) rfl))) Via.refl e0 F_oa_ends (g := (mkF m 9 #[.val (.ref oa), .val (.int (1 : Int32))] [(.ref oa)])) rfl rfl (hb hby own_dst1_9)
  refine own_Fin.go st1 ?_
  show own_Fin _ _ _ _ _ _ _ (T1.setTop (mkF m 12 #[.val (.ref oa), .val (.int (1 : Int32))] [(.ref oe)]))
  refine own_Fin.go (fun t k => XS.iloadN X1.here hx rfl (hb hby own_dst1_12) rfl k) ?_
  show own_Fin _ _ _ _ _ _ _ (T1.setTop (mkF m 13 #[.val (.ref oa), .val (.int (1 : Int32))] [(.int (1 : Int32)), (.ref oe)]))
  refine own_Fin.go (fun t k => XS.iconst X1.here hx rfl (hb hby own_dst1_13) k) ?_
  show own_Fin _ _ _ _ _ _ _ (T1.setTop (mkF m 14 #[.val (.ref oa), .val (.int (1 : Int32))] [(.int (1 : Int32)), (.int (1 : Int32)), (.ref oe)]))
  refine own_Fin.go (fun t k => XS.isub X1.here hx rfl (hb hby own_dst1_14) rfl k) ?_
  show own_Fin _ _ _ _ _ _ _ (T1.setTop (mkF m 15 #[.val (.ref oa), .val (.int (1 : Int32))] [(.int ((1 : Int32) - (1 : Int32))), (.ref oe)]))
  rw [show ((1 : Int32) - (1 : Int32)) = (0 : Int32) from by decide +kernel]
  show own_Fin _ _ _ _ _ _ _ (T1.setTop (mkF m 15 #[.val (.ref oa), .val (.int (1 : Int32))] [(.int (0 : Int32)), (.ref oe)]))
  obtain ⟨cl2, Ar2, q2, S2, N2l, H2, G2⟩ := (id V_oe)
  have hin2 : ¬ ((0 : Int32) < 0 ∨ cl2.slots.size ≤ ((0 : Int32)).toNatClampNeg) := inb_of S2 ⟨by decide, by decide⟩
  have hat2 : cl2.slots[((0 : Int32)).toNatClampNeg]? = some (.int ea) := Has.at H2 hin2 rfl
  refine own_Fin.go (fun t k => X1.iaload hx (j := (0 : Int32)) (v := (.int ea)) (by rw [e1]; exact Ar2.1) (State.isArrayOf_alike hZ.alike Ar2.2.1) Ar2.2.2 hin2 hat2 (g := (mkF m 15 #[.val (.ref oa), .val (.int (1 : Int32))] [(.int (0 : Int32)), (.ref oe)])) rfl rfl (hb hby own_dst1_15) t k) ?_
  show own_Fin _ _ _ _ _ _ _ (T1.setTop (mkF m 16 #[.val (.ref oa), .val (.int (1 : Int32))] [(.int ea)]))
  refine own_retI X1 hx Bd.returns (hb hby own_dst1_16) Bd.notSynchronized (by decide) (by decide) ?_
  rw [e1]
  exact ⟨rfl, N0, rfl⟩
theorem own_dst2_0 : decode prog_16_method_9_code 0 = .ok (.iload_n 1, 1) := by decide +kernel
theorem own_dst2_1 : decode prog_16_method_9_code 1 = .ok (.ifCond .ne 7, 3) := by decide +kernel
theorem own_dst2_8 : decode prog_16_method_9_code 8 = .ok (.aload_n 0, 1) := by decide +kernel
theorem own_dst2_9 : decode prog_16_method_9_code 9 = .ok (.getfield 13, 3) := by decide +kernel
theorem own_dst2_12 : decode prog_16_method_9_code 12 = .ok (.iload_n 1, 1) := by decide +kernel
theorem own_dst2_13 : decode prog_16_method_9_code 13 = .ok (.iconst 1, 1) := by decide +kernel
theorem own_dst2_14 : decode prog_16_method_9_code 14 = .ok (.isub, 1) := by decide +kernel
theorem own_dst2_15 : decode prog_16_method_9_code 15 = .ok (.iaload, 1) := by decide +kernel
theorem own_dst2_16 : decode prog_16_method_9_code 16 = .ok (.ireturn, 1) := by decide +kernel
theorem own_ef_st2 (m : MethodId) (oa : Addr) : entryFrame m #[(.ref oa), (.int (2 : Int32))] 2 = mkF m 0 #[.val (.ref oa), .val (.int (2 : Int32))] [] := by first | (simp [entryFrame, mkF, argsToLocals, Value.category]; done) | rfl
def own_Q_st2 (Z : State) (oa : Addr) (oe : Addr) (ke : ClassId) (ea : Int32) (eb : Int32) (ec : Int32) (h0 : Heap) (n0 : Nat) (v : Option Value) (h : Heap) (L : List Loc) : Prop := v = some (.int eb) ∧ Fr n0 L ∧ h = h0
set_option maxRecDepth 65536 in
set_option maxHeartbeats 40000000 in
theorem own_rm_st2 (l : Launch) (Z : State) (a0 : Array Value) (hw : ∀ d ∈ tables_1, d.before a0 Z = true) (ws : List Jvm.Cond) (oa : Addr) (oe : Addr) (ke : ClassId) (ea : Int32) (eb : Int32) (ec : Int32) (h0 : Heap) (n0 : Nat) (Z0 : n0 ≤ h0.size) (F_oa_ends : Fld Z h0 oa "com/example/wardkeeper/wardkeeper/hl7/Lines" "ends" "[I" (.ref oe)) (V_oe : Arv Z h0 oe ke .int (16 : Int32) [(.int ea), (.int eb), (.int ec), (.int (0 : Int32)), (.int (0 : Int32)), (.int (0 : Int32)), (.int (0 : Int32)), (.int (0 : Int32)), (.int (0 : Int32)), (.int (0 : Int32)), (.int (0 : Int32)), (.int (0 : Int32)), (.int (0 : Int32)), (.int (0 : Int32)), (.int (0 : Int32)), (.int (0 : Int32))] (.int (0 : Int32))) :
    MetFree l (⟨"com/example/wardkeeper/wardkeeper/hl7/Lines", "start", "(I)I"⟩ : MethodName) (head1 (Jvm.Cond.code (⟨"com/example/wardkeeper/wardkeeper/hl7/Lines", "start", "(I)I"⟩ : MethodName) prog_16_method_9_code 2 (some .int) :: ws) ({ frames := 0, cells := 0, slots := 0, locals := 0 } : Room)) (fun a U => a = #[(.ref oa), (.int (2 : Int32))] ∧ Z.Warmed39 U.vm ∧ U.heap = h0) (fun _ _ _ _ _ => True) (fun _ U o U' => ∃ v L, o = .returned v ∧ own_Q_st2 Z oa oe ke ea eb ec h0 n0 v U'.heap L ∧ FrameEnd U o U' L ({ frames := 0, cells := 0, slots := 0, locals := 0 } : Room).cells ({ frames := 0, cells := 0, slots := 0, locals := 0 } : Room).slots) := by
  refine MetFree.of_bodySF (plainFor_of_name own_pn0) hisR ?_
  intro p e s m args below meth c s₁ Bd hml0 hP hK
  obtain ⟨rfl, hZ, hh⟩ := hP
  have hx := Bd.exec
  have hby := Bd.bytes
  have hml : c.maxLocals = 2 := hml0
  have hown : s.vm.findClass "com/example/wardkeeper/wardkeeper/hl7/Lines" = some m.cls := findClass_of_methodNamed Bd.named
  have hnm := (name_of_methodNamed Bd.named Bd.method).1
  have X0 : Stand p l e ({ frames := 0, cells := 0, slots := 0, locals := 0 } : Room) s m #[(.ref oa), (.int (2 : Int32))] below meth c s₁ [] 0 0 := Stand.of_body Bd
  have e0 : s₁.heap = h0 := by rw [← hh, Bd.state]; rfl
  have N0 := Fr.nil n0
  show own_Fin p e below s (own_Q_st2 Z oa oe ke ea eb ec h0 n0) ({ frames := 0, cells := 0, slots := 0, locals := 0 } : Room).cells ({ frames := 0, cells := 0, slots := 0, locals := 0 } : Room).slots (s₁.setTop (entryFrame m #[(.ref oa), (.int (2 : Int32))] 2))
  refine own_Fin.go (fun t k => castTop (own_ef_st2 m oa) k) ?_
  refine own_Fin.go (fun t k => XS.iloadN X0.here hx rfl (hb hby own_dst2_0) rfl k) ?_
  show own_Fin _ _ _ _ _ _ _ (s₁.setTop (mkF m 1 #[.val (.ref oa), .val (.int (2 : Int32))] [(.int (2 : Int32))]))
  refine own_Fin.go (fun t k => XS.ifYes X0.here hx rfl (pc0 := 1) (pc' := 8) rfl (hb hby own_dst2_1) rfl (by decide) (by decide) (by decide) k) ?_
  show own_Fin _ _ _ _ _ _ _ (s₁.setTop (mkF m 8 #[.val (.ref oa), .val (.int (2 : Int32))] []))
  refine own_Fin.go (fun t k => XS.aloadN X0.here hx rfl (hb hby own_dst2_8) rfl rfl k) ?_
  show own_Fin _ _ _ _ _ _ _ (s₁.setTop (mkF m 9 #[.val (.ref oa), .val (.int (2 : Int32))] [(.ref oa)]))
  obtain ⟨T1, X1, e1, st1⟩ := getF X0 hx hZ hown (host := "") (Or.inl (hw _ (List.mem_of_getElem? (i := 13) rfl))) Via.refl e0 F_oa_ends (g := (mkF m 9 #[.val (.ref oa), .val (.int (2 : Int32))] [(.ref oa)])) rfl rfl (hb hby own_dst2_9)
  refine own_Fin.go st1 ?_
  show own_Fin _ _ _ _ _ _ _ (T1.setTop (mkF m 12 #[.val (.ref oa), .val (.int (2 : Int32))] [(.ref oe)]))
  refine own_Fin.go (fun t k => XS.iloadN X1.here hx rfl (hb hby own_dst2_12) rfl k) ?_
  show own_Fin _ _ _ _ _ _ _ (T1.setTop (mkF m 13 #[.val (.ref oa), .val (.int (2 : Int32))] [(.int (2 : Int32)), (.ref oe)]))
  refine own_Fin.go (fun t k => XS.iconst X1.here hx rfl (hb hby own_dst2_13) k) ?_
  show own_Fin _ _ _ _ _ _ _ (T1.setTop (mkF m 14 #[.val (.ref oa), .val (.int (2 : Int32))] [(.int (1 : Int32)), (.int (2 : Int32)), (.ref oe)]))
  refine own_Fin.go (fun t k => XS.isub X1.here hx rfl (hb hby own_dst2_14) rfl k) ?_
  show own_Fin _ _ _ _ _ _ _ (T1.setTop (mkF m 15 #[.val (.ref oa), .val (.int (2 : Int32))] [(.int ((2 : Int32) - (1 : Int32))), (.ref oe)]))
  rw [show ((2 : Int32) - (1 : Int32)) = (1 : Int32) from by decide +kernel]
  show own_Fin _ _ _ _ _ _ _ (T1.setTop (mkF m 15 #[.val (.ref oa), .val (.int (2 : Int32))] [(.int (1 : Int32)), (.ref oe)]))
  obtain ⟨cl2, Ar2, q2, S2, N2l, H2, G2⟩ := (id V_oe)
  have hin2 : ¬ ((1 : Int32) < 0 ∨ cl2.slots.size ≤ ((1 : Int32)).toNatClampNeg) := inb_of S2 ⟨by decide, by decide⟩
  have hat2 : cl2.slots[((1 : Int32)).toNatClampNeg]? = some (.int eb) := Has.at H2 hin2 rfl
  refine own_Fin.go (fun t k => X1.iaload hx (j := (1 : Int32)) (v := (.int eb)) (by rw [e1]; exact Ar2.1) (State.isArrayOf_alike hZ.alike Ar2.2.1) Ar2.2.2 hin2 hat2 (g := (mkF m 15 #[.val (.ref oa), .val (.int (2 : Int32))] [(.int (1 : Int32)), (.ref oe)])) rfl rfl (hb hby own_dst2_15) t k) ?_
  show own_Fin _ _ _ _ _ _ _ (T1.setTop (mkF m 16 #[.val (.ref oa), .val (.int (2 : Int32))] [(.int eb)]))
  refine own_retI X1 hx Bd.returns (hb hby own_dst2_16) Bd.notSynchronized (by decide) (by decide) ?_
  rw [e1]
  exact ⟨rfl, N0, rfl⟩
theorem own_dst3_0 : decode prog_16_method_9_code 0 = .ok (.iload_n 1, 1) := by decide +kernel
theorem own_dst3_1 : decode prog_16_method_9_code 1 = .ok (.ifCond .ne 7, 3) := by decide +kernel
theorem own_dst3_8 : decode prog_16_method_9_code 8 = .ok (.aload_n 0, 1) := by decide +kernel
theorem own_dst3_9 : decode prog_16_method_9_code 9 = .ok (.getfield 13, 3) := by decide +kernel
theorem own_dst3_12 : decode prog_16_method_9_code 12 = .ok (.iload_n 1, 1) := by decide +kernel
theorem own_dst3_13 : decode prog_16_method_9_code 13 = .ok (.iconst 1, 1) := by decide +kernel
theorem own_dst3_14 : decode prog_16_method_9_code 14 = .ok (.isub, 1) := by decide +kernel
theorem own_dst3_15 : decode prog_16_method_9_code 15 = .ok (.iaload, 1) := by decide +kernel
theorem own_dst3_16 : decode prog_16_method_9_code 16 = .ok (.ireturn, 1) := by decide +kernel
theorem own_ef_st3 (m : MethodId) (oa : Addr) : entryFrame m #[(.ref oa), (.int (3 : Int32))] 2 = mkF m 0 #[.val (.ref oa), .val (.int (3 : Int32))] [] := by first | (simp [entryFrame, mkF, argsToLocals, Value.category]; done) | rfl
def own_Q_st3 (Z : State) (oa : Addr) (oe : Addr) (ke : ClassId) (ea : Int32) (eb : Int32) (ec : Int32) (h0 : Heap) (n0 : Nat) (v : Option Value) (h : Heap) (L : List Loc) : Prop := v = some (.int ec) ∧ Fr n0 L ∧ h = h0
set_option maxRecDepth 65536 in
set_option maxHeartbeats 40000000 in
theorem own_rm_st3 (l : Launch) (Z : State) (a0 : Array Value) (hw : ∀ d ∈ tables_1, d.before a0 Z = true) (ws : List Jvm.Cond) (oa : Addr) (oe : Addr) (ke : ClassId) (ea : Int32) (eb : Int32) (ec : Int32) (h0 : Heap) (n0 : Nat) (Z0 : n0 ≤ h0.size) (F_oa_ends : Fld Z h0 oa "com/example/wardkeeper/wardkeeper/hl7/Lines" "ends" "[I" (.ref oe)) (V_oe : Arv Z h0 oe ke .int (16 : Int32) [(.int ea), (.int eb), (.int ec), (.int (0 : Int32)), (.int (0 : Int32)), (.int (0 : Int32)), (.int (0 : Int32)), (.int (0 : Int32)), (.int (0 : Int32)), (.int (0 : Int32)), (.int (0 : Int32)), (.int (0 : Int32)), (.int (0 : Int32)), (.int (0 : Int32)), (.int (0 : Int32)), (.int (0 : Int32))] (.int (0 : Int32))) :
    MetFree l (⟨"com/example/wardkeeper/wardkeeper/hl7/Lines", "start", "(I)I"⟩ : MethodName) (head1 (Jvm.Cond.code (⟨"com/example/wardkeeper/wardkeeper/hl7/Lines", "start", "(I)I"⟩ : MethodName) prog_16_method_9_code 2 (some .int) :: ws) ({ frames := 0, cells := 0, slots := 0, locals := 0 } : Room)) (fun a U => a = #[(.ref oa), (.int (3 : Int32))] ∧ Z.Warmed39 U.vm ∧ U.heap = h0) (fun _ _ _ _ _ => True) (fun _ U o U' => ∃ v L, o = .returned v ∧ own_Q_st3 Z oa oe ke ea eb ec h0 n0 v U'.heap L ∧ FrameEnd U o U' L ({ frames := 0, cells := 0, slots := 0, locals := 0 } : Room).cells ({ frames := 0, cells := 0, slots := 0, locals := 0 } : Room).slots) := by
  refine MetFree.of_bodySF (plainFor_of_name own_pn0) hisR ?_
  intro p e s m args below meth c s₁ Bd hml0 hP hK
  obtain ⟨rfl, hZ, hh⟩ := hP
  have hx := Bd.exec
  have hby := Bd.bytes
  have hml : c.maxLocals = 2 := hml0
  have hown : s.vm.findClass "com/example/wardkeeper/wardkeeper/hl7/Lines" = some m.cls := findClass_of_methodNamed Bd.named
  have hnm := (name_of_methodNamed Bd.named Bd.method).1
  have X0 : Stand p l e ({ frames := 0, cells := 0, slots := 0, locals := 0 } : Room) s m #[(.ref oa), (.int (3 : Int32))] below meth c s₁ [] 0 0 := Stand.of_body Bd
  have e0 : s₁.heap = h0 := by rw [← hh, Bd.state]; rfl
  have N0 := Fr.nil n0
  show own_Fin p e below s (own_Q_st3 Z oa oe ke ea eb ec h0 n0) ({ frames := 0, cells := 0, slots := 0, locals := 0 } : Room).cells ({ frames := 0, cells := 0, slots := 0, locals := 0 } : Room).slots (s₁.setTop (entryFrame m #[(.ref oa), (.int (3 : Int32))] 2))
  refine own_Fin.go (fun t k => castTop (own_ef_st3 m oa) k) ?_
  refine own_Fin.go (fun t k => XS.iloadN X0.here hx rfl (hb hby own_dst3_0) rfl k) ?_
  show own_Fin _ _ _ _ _ _ _ (s₁.setTop (mkF m 1 #[.val (.ref oa), .val (.int (3 : Int32))] [(.int (3 : Int32))]))
  refine own_Fin.go (fun t k => XS.ifYes X0.here hx rfl (pc0 := 1) (pc' := 8) rfl (hb hby own_dst3_1) rfl (by decide) (by decide) (by decide) k) ?_
  show own_Fin _ _ _ _ _ _ _ (s₁.setTop (mkF m 8 #[.val (.ref oa), .val (.int (3 : Int32))] []))
  refine own_Fin.go (fun t k => XS.aloadN X0.here hx rfl (hb hby own_dst3_8) rfl rfl k) ?_
  show own_Fin _ _ _ _ _ _ _ (s₁.setTop (mkF m 9 #[.val (.ref oa), .val (.int (3 : Int32))] [(.ref oa)]))
  obtain ⟨T1, X1, e1, st1⟩ := getF X0 hx hZ hown (host := "") (Or.inl (hw _ (List.mem_of_getElem? (i := 13) rfl))) Via.refl e0 F_oa_ends (g := (mkF m 9 #[.val (.ref oa), .val (.int (3 : Int32))] [(.ref oa)])) rfl rfl (hb hby own_dst3_9)
  refine own_Fin.go st1 ?_
  show own_Fin _ _ _ _ _ _ _ (T1.setTop (mkF m 12 #[.val (.ref oa), .val (.int (3 : Int32))] [(.ref oe)]))
  refine own_Fin.go (fun t k => XS.iloadN X1.here hx rfl (hb hby own_dst3_12) rfl k) ?_
  show own_Fin _ _ _ _ _ _ _ (T1.setTop (mkF m 13 #[.val (.ref oa), .val (.int (3 : Int32))] [(.int (3 : Int32)), (.ref oe)]))
  refine own_Fin.go (fun t k => XS.iconst X1.here hx rfl (hb hby own_dst3_13) k) ?_
  show own_Fin _ _ _ _ _ _ _ (T1.setTop (mkF m 14 #[.val (.ref oa), .val (.int (3 : Int32))] [(.int (1 : Int32)), (.int (3 : Int32)), (.ref oe)]))
  refine own_Fin.go (fun t k => XS.isub X1.here hx rfl (hb hby own_dst3_14) rfl k) ?_
  show own_Fin _ _ _ _ _ _ _ (T1.setTop (mkF m 15 #[.val (.ref oa), .val (.int (3 : Int32))] [(.int ((3 : Int32) - (1 : Int32))), (.ref oe)]))
  rw [show ((3 : Int32) - (1 : Int32)) = (2 : Int32) from by decide +kernel]
  show own_Fin _ _ _ _ _ _ _ (T1.setTop (mkF m 15 #[.val (.ref oa), .val (.int (3 : Int32))] [(.int (2 : Int32)), (.ref oe)]))
  obtain ⟨cl2, Ar2, q2, S2, N2l, H2, G2⟩ := (id V_oe)
  have hin2 : ¬ ((2 : Int32) < 0 ∨ cl2.slots.size ≤ ((2 : Int32)).toNatClampNeg) := inb_of S2 ⟨by decide, by decide⟩
  have hat2 : cl2.slots[((2 : Int32)).toNatClampNeg]? = some (.int ec) := Has.at H2 hin2 rfl
  refine own_Fin.go (fun t k => X1.iaload hx (j := (2 : Int32)) (v := (.int ec)) (by rw [e1]; exact Ar2.1) (State.isArrayOf_alike hZ.alike Ar2.2.1) Ar2.2.2 hin2 hat2 (g := (mkF m 15 #[.val (.ref oa), .val (.int (3 : Int32))] [(.int (2 : Int32)), (.ref oe)])) rfl rfl (hb hby own_dst3_15) t k) ?_
  show own_Fin _ _ _ _ _ _ _ (T1.setTop (mkF m 16 #[.val (.ref oa), .val (.int (3 : Int32))] [(.int ec)]))
  refine own_retI X1 hx Bd.returns (hb hby own_dst3_16) Bd.notSynchronized (by decide) (by decide) ?_
  rw [e1]
  exact ⟨rfl, N0, rfl⟩
theorem own_dclr_0 : decode prog_16_method_3_code 0 = .ok (.aload_n 0, 1) := by decide +kernel
theorem own_dclr_1 : decode prog_16_method_3_code 1 = .ok (.iconst 0, 1) := by decide +kernel
theorem own_dclr_2 : decode prog_16_method_3_code 2 = .ok (.putfield 17, 3) := by decide +kernel
theorem own_dclr_5 : decode prog_16_method_3_code 5 = .ok (.return_, 1) := by decide +kernel
theorem own_ef_clr (m : MethodId) (oa : Addr) : entryFrame m #[(.ref oa)] 1 = mkF m 0 #[.val (.ref oa)] [] := by first | (simp [entryFrame, mkF, argsToLocals, Value.category]; done) | rfl
def own_Q_clr (Z : State) (oa : Addr) (ob : Addr) (oe : Addr) (uc : Int32) (h0 : Heap) (n0 : Nat) (v : Option Value) (h : Heap) (L : List Loc) : Prop := v = none ∧ Fr n0 L ∧ Keep h0 h [oa] ∧ Exa Z h oa "com/example/wardkeeper/wardkeeper/hl7/Lines" ∧ Fld Z h oa "com/example/wardkeeper/wardkeeper/hl7/Lines" "bytes" "[B" (.ref ob) ∧ Fld Z h oa "com/example/wardkeeper/wardkeeper/hl7/Lines" "ends" "[I" (.ref oe) ∧ Fld Z h oa "com/example/wardkeeper/wardkeeper/hl7/Lines" "count" "I" (.int (0 : Int32))
set_option maxRecDepth 65536 in
set_option maxHeartbeats 40000000 in
theorem own_rm_clr (l : Launch) (Z : State) (a0 : Array Value) (hw : ∀ d ∈ tables_1, d.before a0 Z = true) (ws : List Jvm.Cond) (oa : Addr) (ob : Addr) (oe : Addr) (uc : Int32) (h0 : Heap) (n0 : Nat) (Z0 : n0 ≤ h0.size) (E_oa : Exa Z h0 oa "com/example/wardkeeper/wardkeeper/hl7/Lines") (F_oa_bytes : Fld Z h0 oa "com/example/wardkeeper/wardkeeper/hl7/Lines" "bytes" "[B" (.ref ob)) (F_oa_ends : Fld Z h0 oa "com/example/wardkeeper/wardkeeper/hl7/Lines" "ends" "[I" (.ref oe)) (F_oa_count : Fld Z h0 oa "com/example/wardkeeper/wardkeeper/hl7/Lines" "count" "I" (.int uc)) (g_oa : n0 ≤ oa) :
    MetFree l (⟨"com/example/wardkeeper/wardkeeper/hl7/Lines", "clear", "()V"⟩ : MethodName) (head1 (Jvm.Cond.code (⟨"com/example/wardkeeper/wardkeeper/hl7/Lines", "clear", "()V"⟩ : MethodName) prog_16_method_3_code 1 none :: ws) ({ frames := 0, cells := 0, slots := 0, locals := 0 } : Room)) (fun a U => a = #[(.ref oa)] ∧ Z.Warmed39 U.vm ∧ U.heap = h0) (fun _ _ _ _ _ => True) (fun _ U o U' => ∃ v L, o = .returned v ∧ own_Q_clr Z oa ob oe uc h0 n0 v U'.heap L ∧ FrameEnd U o U' L ({ frames := 0, cells := 0, slots := 0, locals := 0 } : Room).cells ({ frames := 0, cells := 0, slots := 0, locals := 0 } : Room).slots) := by
  refine MetFree.of_bodySF (plainFor_of_name own_pn0) hisR ?_
  intro p e s m args below meth c s₁ Bd hml0 hP hK
  obtain ⟨rfl, hZ, hh⟩ := hP
  have hx := Bd.exec
  have hby := Bd.bytes
  have hml : c.maxLocals = 1 := hml0
  have hown : s.vm.findClass "com/example/wardkeeper/wardkeeper/hl7/Lines" = some m.cls := findClass_of_methodNamed Bd.named
  have hnm := (name_of_methodNamed Bd.named Bd.method).1
  have X0 : Stand p l e ({ frames := 0, cells := 0, slots := 0, locals := 0 } : Room) s m #[(.ref oa)] below meth c s₁ [] 0 0 := Stand.of_body Bd
  have e0 : s₁.heap = h0 := by rw [← hh, Bd.state]; rfl
  have N0 := Fr.nil n0
  have K0 := Keep.refl h0 [oa]
  show own_Fin p e below s (own_Q_clr Z oa ob oe uc h0 n0) ({ frames := 0, cells := 0, slots := 0, locals := 0 } : Room).cells ({ frames := 0, cells := 0, slots := 0, locals := 0 } : Room).slots (s₁.setTop (entryFrame m #[(.ref oa)] 1))
  refine own_Fin.go (fun t k => castTop (own_ef_clr m oa) k) ?_
  refine own_Fin.go (fun t k => XS.aloadN X0.here hx rfl (hb hby own_dclr_0) rfl rfl k) ?_
  show own_Fin _ _ _ _ _ _ _ (s₁.setTop (mkF m 1 #[.val (.ref oa)] [(.ref oa)]))
  refine own_Fin.go (fun t k => XS.iconst X0.here hx rfl (hb hby own_dclr_1) k) ?_
  show own_Fin _ _ _ _ _ _ _ (s₁.setTop (mkF m 2 #[.val (.ref oa)] [(.int (0 : Int32)), (.ref oa)]))
  obtain ⟨T1, h1, X1, e1, W1, st1⟩ := putF X0 hx hZ hown (host := "") (Or.inl (hw _ (List.mem_of_getElem? (i := 20) rfl))) Via.refl e0 F_oa_count E_oa (Or.inl (hw _ (List.mem_of_getElem? (i := 21) rfl))) (hw _ (List.mem_of_getElem? (i := 2) rfl)) (ty := .int) (by decide) rfl rfl (g := (mkF m 2 #[.val (.ref oa)] [(.int (0 : Int32)), (.ref oa)])) rfl rfl (hb hby own_dclr_2)
  refine own_Fin.go st1 ?_
  have F_oa_count_1 := Fld.same W1 F_oa_count
  have E_oa_1 := Exa.wr W1 E_oa
  have F_oa_bytes_1 := Fld.other W1 F_oa_bytes (Or.inr (slot_ne (Or.inl (hw _ (List.mem_of_getElem? (i := 11) rfl))) (Or.inl (hw _ (List.mem_of_getElem? (i := 21) rfl))) (by decide) (t := (.array .byte)) (t' := .int) (by decide) (by decide)))
  have F_oa_ends_1 := Fld.other W1 F_oa_ends (Or.inr (slot_ne (Or.inl (hw _ (List.mem_of_getElem? (i := 14) rfl))) (Or.inl (hw _ (List.mem_of_getElem? (i := 21) rfl))) (by decide) (t := (.array .int)) (t' := .int) (by decide) (by decide)))
  have Z1 := Nat.le_trans Z0 (Keep.of_wr W1).1
  have K1 := K0.wr W1 (Or.inl (List.mem_of_getElem? (i := 0) rfl))
  have N1 := Fr.snoc X1 N0 g_oa
  show own_Fin _ _ _ _ _ _ _ (T1.setTop (mkF m 5 #[.val (.ref oa)] []))
  refine own_ret0 X1 hx Bd.returns (hb hby own_dclr_5) Bd.notSynchronized (by decide) (by decide) ?_
  rw [e1]
  exact ⟨rfl, N1, K1, E_oa_1, F_oa_bytes_1, F_oa_ends_1, F_oa_count_1⟩
theorem own_pd0 : parseMethodDescriptor "(I)I" = some ⟨[.int], some .int⟩ := by decide +kernel
theorem own_dadd0_0 : decode prog_16_method_2_code 0 = .ok (.aload_n 0, 1) := by decide +kernel
theorem own_dadd0_1 : decode prog_16_method_2_code 1 = .ok (.aload_n 0, 1) := by decide +kernel
theorem own_dadd0_2 : decode prog_16_method_2_code 2 = .ok (.getfield 17, 3) := by decide +kernel
theorem own_dadd0_5 : decode prog_16_method_2_code 5 = .ok (.invokevirtual 21, 3) := by decide +kernel
theorem own_dadd0_8 : decode prog_16_method_2_code 8 = .ok (.istore 4, 2) := by decide +kernel
theorem own_dadd0_10 : decode prog_16_method_2_code 10 = .ok (.aload_n 0, 1) := by decide +kernel
theorem own_dadd0_11 : decode prog_16_method_2_code 11 = .ok (.getfield 9, 3) := by decide +kernel
theorem own_dadd0_14 : decode prog_16_method_2_code 14 = .ok (.arraylength, 1) := by decide +kernel
theorem own_dadd0_15 : decode prog_16_method_2_code 15 = .ok (.iload 4, 2) := by decide +kernel
theorem own_dadd0_17 : decode prog_16_method_2_code 17 = .ok (.isub, 1) := by decide +kernel
theorem own_dadd0_18 : decode prog_16_method_2_code 18 = .ok (.iload_n 3, 1) := by decide +kernel
theorem own_dadd0_19 : decode prog_16_method_2_code 19 = .ok (.if_icmp .ge 28, 3) := by decide +kernel
theorem own_dadd0_47 : decode prog_16_method_2_code 47 = .ok (.aload_n 0, 1) := by decide +kernel
theorem own_dadd0_48 : decode prog_16_method_2_code 48 = .ok (.getfield 17, 3) := by decide +kernel
theorem own_dadd0_51 : decode prog_16_method_2_code 51 = .ok (.aload_n 0, 1) := by decide +kernel
theorem own_dadd0_52 : decode prog_16_method_2_code 52 = .ok (.getfield 13, 3) := by decide +kernel
theorem own_dadd0_55 : decode prog_16_method_2_code 55 = .ok (.arraylength, 1) := by decide +kernel
theorem own_dadd0_56 : decode prog_16_method_2_code 56 = .ok (.if_icmp .ne 21, 3) := by decide +kernel
theorem own_dadd0_77 : decode prog_16_method_2_code 77 = .ok (.aload_n 1, 1) := by decide +kernel
theorem own_dadd0_78 : decode prog_16_method_2_code 78 = .ok (.iload_n 2, 1) := by decide +kernel
theorem own_dadd0_79 : decode prog_16_method_2_code 79 = .ok (.aload_n 0, 1) := by decide +kernel
theorem own_dadd0_80 : decode prog_16_method_2_code 80 = .ok (.getfield 9, 3) := by decide +kernel
theorem own_dadd0_83 : decode prog_16_method_2_code 83 = .ok (.iload 4, 2) := by decide +kernel
theorem own_dadd0_85 : decode prog_16_method_2_code 85 = .ok (.iload_n 3, 1) := by decide +kernel
theorem own_dadd0_86 : decode prog_16_method_2_code 86 = .ok (.invokestatic 40, 3) := by decide +kernel
theorem own_dadd0_89 : decode prog_16_method_2_code 89 = .ok (.aload_n 0, 1) := by decide +kernel
theorem own_dadd0_90 : decode prog_16_method_2_code 90 = .ok (.getfield 13, 3) := by decide +kernel
theorem own_dadd0_93 : decode prog_16_method_2_code 93 = .ok (.aload_n 0, 1) := by decide +kernel
theorem own_dadd0_94 : decode prog_16_method_2_code 94 = .ok (.dup, 1) := by decide +kernel
theorem own_dadd0_95 : decode prog_16_method_2_code 95 = .ok (.getfield 17, 3) := by decide +kernel
theorem own_dadd0_98 : decode prog_16_method_2_code 98 = .ok (.dup_x1, 1) := by decide +kernel
theorem own_dadd0_99 : decode prog_16_method_2_code 99 = .ok (.iconst 1, 1) := by decide +kernel
theorem own_dadd0_100 : decode prog_16_method_2_code 100 = .ok (.iadd, 1) := by decide +kernel
theorem own_dadd0_101 : decode prog_16_method_2_code 101 = .ok (.putfield 17, 3) := by decide +kernel
theorem own_dadd0_104 : decode prog_16_method_2_code 104 = .ok (.iload 4, 2) := by decide +kernel
theorem own_dadd0_106 : decode prog_16_method_2_code 106 = .ok (.iload_n 3, 1) := by decide +kernel
theorem own_dadd0_107 : decode prog_16_method_2_code 107 = .ok (.iadd, 1) := by decide +kernel
theorem own_dadd0_108 : decode prog_16_method_2_code 108 = .ok (.iastore, 1) := by decide +kernel
theorem own_dadd0_109 : decode prog_16_method_2_code 109 = .ok (.return_, 1) := by decide +kernel
theorem own_ef_add0 (m : MethodId) (oa : Addr) (ra : Addr) (vb : Int32) (vc : Int32) : entryFrame m #[(.ref oa), (.ref ra), (.int vb), (.int vc)] 5 = mkF m 0 #[.val (.ref oa), .val (.ref ra), .val (.int vb), .val (.int vc), .unset] [] := by first | (simp [entryFrame, mkF, argsToLocals, Value.category]; done) | rfl
def own_Q_add0 (Z : State) (oa : Addr) (ra : Addr) (vb : Int32) (vc : Int32) (ob : Addr) (kb : ClassId) (ks : ClassId) (LB : List Int32) (LS : List Int32) (oe : Addr) (ke : ClassId) (ea : Int32) (eb : Int32) (ec : Int32) (h0 : Heap) (n0 : Nat) (v : Option Value) (h : Heap) (L : List Loc) : Prop := v = none ∧ Fr n0 L ∧ Keep h0 h [oa, ob, oe] ∧ Exa Z h oa "com/example/wardkeeper/wardkeeper/hl7/Lines" ∧ Fld Z h oa "com/example/wardkeeper/wardkeeper/hl7/Lines" "bytes" "[B" (.ref ob) ∧ Fld Z h oa "com/example/wardkeeper/wardkeeper/hl7/Lines" "ends" "[I" (.ref oe) ∧ Fld Z h oa "com/example/wardkeeper/wardkeeper/hl7/Lines" "count" "I" (.int (1 : Int32)) ∧ Arv Z h ob kb .byte (1024 : Int32) ((own_cp LB LS (0 : Int32) vb vc).map Value.int) (.int (0 : Int32)) ∧ Arv Z h oe ke .int (16 : Int32) [(.int ((0 : Int32) + vc)), (.int eb), (.int ec), (.int (0 : Int32)), (.int (0 : Int32)), (.int (0 : Int32)), (.int (0 : Int32)), (.int (0 : Int32)), (.int (0 : Int32)), (.int (0 : Int32)), (.int (0 : Int32)), (.int (0 : Int32)), (.int (0 : Int32)), (.int (0 : Int32)), (.int (0 : Int32)), (.int (0 : Int32))] (.int (0 : Int32))
set_option maxRecDepth 65536 in
set_option maxHeartbeats 40000000 in
theorem own_rm_add0 (l : Launch) (Z : State) (a0 : Array Value) (hw : ∀ d ∈ tables_1, d.before a0 Z = true) (ws : List Jvm.Cond) (oa : Addr) (ra : Addr) (vb : Int32) (vc : Int32) (ob : Addr) (kb : ClassId) (ks : ClassId) (LB : List Int32) (LS : List Int32) (oe : Addr) (ke : ClassId) (ea : Int32) (eb : Int32) (ec : Int32) (h0 : Heap) (n0 : Nat) (Z0 : n0 ≤ h0.size) (E_oa : Exa Z h0 oa "com/example/wardkeeper/wardkeeper/hl7/Lines") (F_oa_bytes : Fld Z h0 oa "com/example/wardkeeper/wardkeeper/hl7/Lines" "bytes" "[B" (.ref ob)) (F_oa_ends : Fld Z h0 oa "com/example/wardkeeper/wardkeeper/hl7/Lines" "ends" "[I" (.ref oe)) (F_oa_count : Fld Z h0 oa "com/example/wardkeeper/wardkeeper/hl7/Lines" "count" "I" (.int (0 : Int32))) (V_ob : Arv Z h0 ob kb .byte (1024 : Int32) (LB.map Value.int) (.int (0 : Int32))) (V_oe : Arv Z h0 oe ke .int (16 : Int32) [(.int ea), (.int eb), (.int ec), (.int (0 : Int32)), (.int (0 : Int32)), (.int (0 : Int32)), (.int (0 : Int32)), (.int (0 : Int32)), (.int (0 : Int32)), (.int (0 : Int32)), (.int (0 : Int32)), (.int (0 : Int32)), (.int (0 : Int32)), (.int (0 : Int32)), (.int (0 : Int32)), (.int (0 : Int32))] (.int (0 : Int32))) (V_ra : Arv Z h0 ra ks .byte (8 : Int32) (LS.map Value.int) (.int (0 : Int32))) (g_oa : n0 ≤ oa) (g_ob : n0 ≤ ob) (g_oe : n0 ≤ oe) (ne_oa_ob : oa ≠ ob) (ne_oa_oe : oa ≠ oe) (ne_ob_oe : ob ≠ oe) (ne_ra_oa : ra ≠ oa) (ne_ra_ob : ra ≠ ob) (ne_ra_oe : ra ≠ oe) (hbd : own_bd vb vc) (hok : own_ok 100 (0 : Int32)) (hL : LB.length = 1024) :
    MetFree l (⟨"com/example/wardkeeper/wardkeeper/hl7/Lines", "add", "([BII)V"⟩ : MethodName) (head1 (Jvm.Cond.code (⟨"com/example/wardkeeper/wardkeeper/hl7/Lines", "add", "([BII)V"⟩ : MethodName) prog_16_method_2_code 5 none :: ws) ({ frames := 1, cells := 0, slots := 0, locals := 18 } : Room)) (fun a U => a = #[(.ref oa), (.ref ra), (.int vb), (.int vc)] ∧ Z.Warmed39 U.vm ∧ U.heap = h0) (fun _ _ _ _ _ => True) (fun _ U o U' => ∃ v L, o = .returned v ∧ own_Q_add0 Z oa ra vb vc ob kb ks LB LS oe ke ea eb ec h0 n0 v U'.heap L ∧ FrameEnd U o U' L ({ frames := 1, cells := 0, slots := 0, locals := 18 } : Room).cells ({ frames := 1, cells := 0, slots := 0, locals := 18 } : Room).slots) := by
  refine MetFree.of_bodySF (plainFor_of_name own_pn0) hisR ?_
  intro p e s m args below meth c s₁ Bd hml0 hP hK
  obtain ⟨rfl, hZ, hh⟩ := hP
  have hx := Bd.exec
  have hby := Bd.bytes
  have hml : c.maxLocals = 5 := hml0
  have hown : s.vm.findClass "com/example/wardkeeper/wardkeeper/hl7/Lines" = some m.cls := findClass_of_methodNamed Bd.named
  have hnm := (name_of_methodNamed Bd.named Bd.method).1
  have X0 : Stand p l e ({ frames := 1, cells := 0, slots := 0, locals := 18 } : Room) s m #[(.ref oa), (.ref ra), (.int vb), (.int vc)] below meth c s₁ [] 0 0 := Stand.of_body Bd
  have e0 : s₁.heap = h0 := by rw [← hh, Bd.state]; rfl
  have N0 := Fr.nil n0
  have K0 := Keep.refl h0 [oa, ob, oe]
  show own_Fin p e below s (own_Q_add0 Z oa ra vb vc ob kb ks LB LS oe ke ea eb ec h0 n0) ({ frames := 1, cells := 0, slots := 0, locals := 18 } : Room).cells ({ frames := 1, cells := 0, slots := 0, locals := 18 } : Room).slots (s₁.setTop (entryFrame m #[(.ref oa), (.ref ra), (.int vb), (.int vc)] 5))
  refine own_Fin.go (fun t k => castTop (own_ef_add0 m oa ra vb vc) k) ?_
  refine own_Fin.go (fun t k => XS.aloadN X0.here hx rfl (hb hby own_dadd0_0) rfl rfl k) ?_
  show own_Fin _ _ _ _ _ _ _ (s₁.setTop (mkF m 1 #[.val (.ref oa), .val (.ref ra), .val (.int vb), .val (.int vc), .unset] [(.ref oa)]))
  refine own_Fin.go (fun t k => XS.aloadN X0.here hx rfl (hb hby own_dadd0_1) rfl rfl k) ?_
  show own_Fin _ _ _ _ _ _ _ (s₁.setTop (mkF m 2 #[.val (.ref oa), .val (.ref ra), .val (.int vb), .val (.int vc), .unset] [(.ref oa), (.ref oa)]))
  obtain ⟨T1, X1, e1, st1⟩ := getF X0 hx hZ hown (host := "") (Or.inl (hw _ (List.mem_of_getElem? (i := 20) rfl))) Via.refl e0 F_oa_count (g := (mkF m 2 #[.val (.ref oa), .val (.ref ra), .val (.int vb), .val (.int vc), .unset] [(.ref oa), (.ref oa)])) rfl rfl (hb hby own_dadd0_2)
  refine own_Fin.go st1 ?_
  show own_Fin _ _ _ _ _ _ _ (T1.setTop (mkF m 5 #[.val (.ref oa), .val (.ref ra), .val (.int vb), .val (.int vc), .unset] [(.int (0 : Int32)), (.ref oa)]))
  obtain ⟨cq2, q2, q2'⟩ := E_oa.cell
  obtain ⟨_, _, ⟨T2, L2, k2, n2⟩, -, X2, ⟨Lc2, hQ2, l2, y2, z2⟩, st2⟩ := X1.privateBack hx (y := (⟨"com/example/wardkeeper/wardkeeper/hl7/Lines", "start", "(I)I"⟩ : MethodName)) hown (mvT hZ (hw _ (List.mem_of_getElem? (i := 27) rfl))) (mvT hZ (hw _ (List.mem_of_getElem? (i := 28) rfl))) (own_selp (y := (⟨"com/example/wardkeeper/wardkeeper/hl7/Lines", "start", "(I)I"⟩ : MethodName)) (mvT hZ (hw _ (List.mem_of_getElem? (i := 18) rfl)) (args := #[])) rfl (Cond.privateMethod_at (mvP hZ (hw _ (List.mem_of_getElem? (i := 29) rfl)) (args := #[]))) (mvT hZ (hw _ (List.mem_of_getElem? (i := 28) rfl)) (args := #[])) (by decide)) (Cond.privateMethod_at (mvP hZ (hw _ (List.mem_of_getElem? (i := 29) rfl)) (args := #[]))) (mvT hZ (hw _ (List.mem_of_getElem? (i := 30) rfl))) (by decide) (backOf (W := 0) (own_rm_st0 l Z a0 hw [] oa  h0 n0 Z0 ) hZ (hw _ (List.mem_of_getElem? (i := 30) rfl)) (hw _ (List.mem_of_getElem? (i := 3) rfl)) (by decide) (by decide)) (g := (mkF m 5 #[.val (.ref oa), .val (.ref ra), .val (.int vb), .val (.int vc), .unset] [(.int (0 : Int32)), (.ref oa)])) rfl (by rw [hml]; rfl) (Steps.refl _) (a := oa) (by rw [e1]; exact q2) q2' (argsL := [(.int (0 : Int32))]) (rest := []) (lenOf own_pd0 rfl) rfl (by show 2 * 0 + _ ≤ _; exact Nat.le_of_eq rfl) (hb hby own_dadd0_5) (fun _ _ => ⟨rfl, e1, (by decide : 0 + 0 ≤ _), (by decide : 0 + 0 ≤ _)⟩)
  dsimp only [Pt.U, Pt.locs, Pt.cells, Pt.slots] at X2 l2 y2 z2 st2 hQ2
  subst l2 y2 z2
  obtain ⟨rfl, N2q, e2⟩ := hQ2
  refine own_Fin.go (fun t k => st2.trans k) ?_
  have N2 := Fr.app N0 N2q
  show own_Fin _ _ _ _ _ _ _ (T2.setTop (mkF m 8 #[.val (.ref oa), .val (.ref ra), .val (.int vb), .val (.int vc), .unset] [(.int (0 : Int32))]))
  refine own_Fin.go (fun t k => XS.istore X2.here hx rfl (hb hby own_dadd0_8) rfl (l' := #[.val (.ref oa), .val (.ref ra), .val (.int vb), .val (.int vc), .val (.int (0 : Int32))]) rfl k) ?_
  show own_Fin _ _ _ _ _ _ _ (T2.setTop (mkF m 10 #[.val (.ref oa), .val (.ref ra), .val (.int vb), .val (.int vc), .val (.int (0 : Int32))] []))
  refine own_Fin.go (fun t k => XS.aloadN X2.here hx rfl (hb hby own_dadd0_10) rfl rfl k) ?_
  show own_Fin _ _ _ _ _ _ _ (T2.setTop (mkF m 11 #[.val (.ref oa), .val (.ref ra), .val (.int vb), .val (.int vc), .val (.int (0 : Int32))] [(.ref oa)]))
  obtain ⟨T3, X3, e3, st3⟩ := getF X2 hx hZ hown (host := "") (Or.inl (hw _ (List.mem_of_getElem? (i := 10) rfl))) Via.refl e2 F_oa_bytes (g := (mkF m 11 #[.val (.ref oa), .val (.ref ra), .val (.int vb), .val (.int vc), .val (.int (0 : Int32))] [(.ref oa)])) rfl rfl (hb hby own_dadd0_11)
  refine own_Fin.go st3 ?_
  show own_Fin _ _ _ _ _ _ _ (T3.setTop (mkF m 14 #[.val (.ref oa), .val (.ref ra), .val (.int vb), .val (.int vc), .val (.int (0 : Int32))] [(.ref ob)]))
  obtain ⟨cl4, Ar4, -, S4, N4l, -, -⟩ := (id V_ob)
  refine own_Fin.go (fun t k => X3.arraylength hx (by rw [e3]; exact Ar4.1) (State.isArrayOf_alike hZ.alike Ar4.2.1) (g := (mkF m 14 #[.val (.ref oa), .val (.ref ra), .val (.int vb), .val (.int vc), .val (.int (0 : Int32))] [(.ref ob)])) rfl rfl (hb hby own_dadd0_14) t k) ?_
  rw [len_of S4 N4l]
  show own_Fin _ _ _ _ _ _ _ (T3.setTop (mkF m 15 #[.val (.ref oa), .val (.ref ra), .val (.int vb), .val (.int vc), .val (.int (0 : Int32))] [(.int (1024 : Int32))]))
  refine own_Fin.go (fun t k => XS.iload X3.here hx rfl (hb hby own_dadd0_15) rfl k) ?_
  show own_Fin _ _ _ _ _ _ _ (T3.setTop (mkF m 17 #[.val (.ref oa), .val (.ref ra), .val (.int vb), .val (.int vc), .val (.int (0 : Int32))] [(.int (0 : Int32)), (.int (1024 : Int32))]))
  refine own_Fin.go (fun t k => XS.isub X3.here hx rfl (hb hby own_dadd0_17) rfl k) ?_
  show own_Fin _ _ _ _ _ _ _ (T3.setTop (mkF m 18 #[.val (.ref oa), .val (.ref ra), .val (.int vb), .val (.int vc), .val (.int (0 : Int32))] [(.int ((1024 : Int32) - (0 : Int32)))]))
  rw [show ((1024 : Int32) - (0 : Int32)) = (1024 : Int32) from by decide +kernel]
  show own_Fin _ _ _ _ _ _ _ (T3.setTop (mkF m 18 #[.val (.ref oa), .val (.ref ra), .val (.int vb), .val (.int vc), .val (.int (0 : Int32))] [(.int (1024 : Int32))]))
  refine own_Fin.go (fun t k => XS.iloadN X3.here hx rfl (hb hby own_dadd0_18) rfl k) ?_
  show own_Fin _ _ _ _ _ _ _ (T3.setTop (mkF m 19 #[.val (.ref oa), .val (.ref ra), .val (.int vb), .val (.int vc), .val (.int (0 : Int32))] [(.int vc), (.int (1024 : Int32))]))
  have hc19 : ¬ ((1024 : Int32) < vc) := own_room0 hbd
  refine own_Fin.go (fun t k => XS.icmpYes X3.here hx rfl (pc0 := 19) (pc' := 47) rfl (hb hby own_dadd0_19) rfl (Jvm.Free.XT.ii_ge_t hc19) (by decide) (by decide) k) ?_
  show own_Fin _ _ _ _ _ _ _ (T3.setTop (mkF m 47 #[.val (.ref oa), .val (.ref ra), .val (.int vb), .val (.int vc), .val (.int (0 : Int32))] []))
  refine own_Fin.go (fun t k => XS.aloadN X3.here hx rfl (hb hby own_dadd0_47) rfl rfl k) ?_
  show own_Fin _ _ _ _ _ _ _ (T3.setTop (mkF m 48 #[.val (.ref oa), .val (.ref ra), .val (.int vb), .val (.int vc), .val (.int (0 : Int32))] [(.ref oa)]))
  obtain ⟨T5, X5, e5, st5⟩ := getF X3 hx hZ hown (host := "") (Or.inl (hw _ (List.mem_of_getElem? (i := 20) rfl))) Via.refl e3 F_oa_count (g := (mkF m 48 #[.val (.ref oa), .val (.ref ra), .val (.int vb), .val (.int vc), .val (.int (0 : Int32))] [(.ref oa)])) rfl rfl (hb hby own_dadd0_48)
  refine own_Fin.go st5 ?_
  show own_Fin _ _ _ _ _ _ _ (T5.setTop (mkF m 51 #[.val (.ref oa), .val (.ref ra), .val (.int vb), .val (.int vc), .val (.int (0 : Int32))] [(.int (0 : Int32))]))
  refine own_Fin.go (fun t k => XS.aloadN X5.here hx rfl (hb hby own_dadd0_51) rfl rfl k) ?_
  show own_Fin _ _ _ _ _ _ _ (T5.setTop (mkF m 52 #[.val (.ref oa), .val (.ref ra), .val (.int vb), .val (.int vc), .val (.int (0 : Int32))] [(.ref oa), (.int (0 : Int32))]))
  obtain ⟨T6, X6, e6, st6⟩ := getF X5 hx hZ hown (host := "") (Or.inl (hw _ (List.mem_of_getElem? (i := 13) rfl))) Via.refl e5 F_oa_ends (g := (mkF m 52 #[.val (.ref oa), .val (.ref ra), .val (.int vb), .val (.int vc), .val (.int (0 : Int32))] [(.ref oa), (.int (0 : Int32))])) rfl rfl (hb hby own_dadd0_52)
  refine own_Fin.go st6 ?_
  show own_Fin _ _ _ _ _ _ _ (T6.setTop (mkF m 55 #[.val (.ref oa), .val (.ref ra), .val (.int vb), .val (.int vc), .val (.int (0 : Int32))] [(.ref oe), (.int (0 : Int32))]))
  obtain ⟨cl7, Ar7, -, S7, N7l, -, -⟩ := (id V_oe)
  refine own_Fin.go (fun t k => X6.arraylength hx (by rw [e6]; exact Ar7.1) (State.isArrayOf_alike hZ.alike Ar7.2.1) (g := (mkF m 55 #[.val (.ref oa), .val (.ref ra), .val (.int vb), .val (.int vc), .val (.int (0 : Int32))] [(.ref oe), (.int (0 : Int32))])) rfl rfl (hb hby own_dadd0_55) t k) ?_
  rw [len_of S7 N7l]
  show own_Fin _ _ _ _ _ _ _ (T6.setTop (mkF m 56 #[.val (.ref oa), .val (.ref ra), .val (.int vb), .val (.int vc), .val (.int (0 : Int32))] [(.int (16 : Int32)), (.int (0 : Int32))]))
  refine own_Fin.go (fun t k => XS.icmpYes X6.here hx rfl (pc0 := 56) (pc' := 77) rfl (hb hby own_dadd0_56) rfl (by decide) (by decide) (by decide) k) ?_
  show own_Fin _ _ _ _ _ _ _ (T6.setTop (mkF m 77 #[.val (.ref oa), .val (.ref ra), .val (.int vb), .val (.int vc), .val (.int (0 : Int32))] []))
  refine own_Fin.go (fun t k => XS.aloadN X6.here hx rfl (hb hby own_dadd0_77) rfl rfl k) ?_
  show own_Fin _ _ _ _ _ _ _ (T6.setTop (mkF m 78 #[.val (.ref oa), .val (.ref ra), .val (.int vb), .val (.int vc), .val (.int (0 : Int32))] [(.ref ra)]))
  refine own_Fin.go (fun t k => XS.iloadN X6.here hx rfl (hb hby own_dadd0_78) rfl k) ?_
  show own_Fin _ _ _ _ _ _ _ (T6.setTop (mkF m 79 #[.val (.ref oa), .val (.ref ra), .val (.int vb), .val (.int vc), .val (.int (0 : Int32))] [(.int vb), (.ref ra)]))
  refine own_Fin.go (fun t k => XS.aloadN X6.here hx rfl (hb hby own_dadd0_79) rfl rfl k) ?_
  show own_Fin _ _ _ _ _ _ _ (T6.setTop (mkF m 80 #[.val (.ref oa), .val (.ref ra), .val (.int vb), .val (.int vc), .val (.int (0 : Int32))] [(.ref oa), (.int vb), (.ref ra)]))
  obtain ⟨T8, X8, e8, st8⟩ := getF X6 hx hZ hown (host := "") (Or.inl (hw _ (List.mem_of_getElem? (i := 10) rfl))) Via.refl e6 F_oa_bytes (g := (mkF m 80 #[.val (.ref oa), .val (.ref ra), .val (.int vb), .val (.int vc), .val (.int (0 : Int32))] [(.ref oa), (.int vb), (.ref ra)])) rfl rfl (hb hby own_dadd0_80)
  refine own_Fin.go st8 ?_
  show own_Fin _ _ _ _ _ _ _ (T8.setTop (mkF m 83 #[.val (.ref oa), .val (.ref ra), .val (.int vb), .val (.int vc), .val (.int (0 : Int32))] [(.ref ob), (.int vb), (.ref ra)]))
  refine own_Fin.go (fun t k => XS.iload X8.here hx rfl (hb hby own_dadd0_83) rfl k) ?_
  show own_Fin _ _ _ _ _ _ _ (T8.setTop (mkF m 85 #[.val (.ref oa), .val (.ref ra), .val (.int vb), .val (.int vc), .val (.int (0 : Int32))] [(.int (0 : Int32)), (.ref ob), (.int vb), (.ref ra)]))
  refine own_Fin.go (fun t k => XS.iloadN X8.here hx rfl (hb hby own_dadd0_85) rfl k) ?_
  show own_Fin _ _ _ _ _ _ _ (T8.setTop (mkF m 86 #[.val (.ref oa), .val (.ref ra), .val (.int vb), .val (.int vc), .val (.int (0 : Int32))] [(.int vc), (.int (0 : Int32)), (.ref ob), (.int vb), (.ref ra)]))
  obtain ⟨T9, h9, L9, X9, e9, N9, K9q, V9c, st9⟩ := cpA X8 hx hZ hown (hw _ (List.mem_of_getElem? (i := 31) rfl)) (hw _ (List.mem_of_getElem? (i := 34) rfl)) (hw _ (List.mem_of_getElem? (i := 32) rfl)) (hw _ (List.mem_of_getElem? (i := 33) rfl)) e8 V_ra V_ob (us := ((own_sl LS vb vc).map Value.int)) (Or.inl ⟨rfl, rfl⟩) hbd.1 hok.1 hbd.2.1 (own_c8 hbd) (own_c1024 hok hbd) (own_hus LS vb vc) (by rw [List.length_map, hL]; exact own_c1024 hok hbd) N2 g_ob (g := (mkF m 86 #[.val (.ref oa), .val (.ref ra), .val (.int vb), .val (.int vc), .val (.int (0 : Int32))] [(.int vc), (.int (0 : Int32)), (.ref ob), (.int vb), (.ref ra)])) rfl (by rw [hml]; rfl) rfl (hb hby own_dadd0_86) (by decide) (W := 0) (by show 2 * 0 + _ ≤ _; exact Nat.le_of_eq rfl) (by decide)
  refine own_Fin.go st9 ?_
  have V_ob_9 : Arv Z h9 ob kb .byte (1024 : Int32) ((own_cp LB LS (0 : Int32) vb vc).map Value.int) (.int (0 : Int32)) := (by have q := V9c; rw [own_cpMap] at q; exact q)
  have E_oa_9 := E_oa.keep K9q
  have F_oa_bytes_9 := F_oa_bytes.keep K9q (ninS ne_oa_ob nin0)
  have F_oa_ends_9 := F_oa_ends.keep K9q (ninS ne_oa_ob nin0)
  have F_oa_count_9 := F_oa_count.keep K9q (ninS ne_oa_ob nin0)
  have V_oe_9 := V_oe.keep K9q (ninS (Ne.symm ne_ob_oe) nin0)
  have V_ra_9 := V_ra.keep K9q (ninS ne_ra_ob nin0)
  have Z9 := Nat.le_trans Z0 K9q.1
  have K9 := K0.trans K9q (allS (Or.inl (List.mem_of_getElem? (i := 1) rfl)) all0)
  show own_Fin _ _ _ _ _ _ _ (T9.setTop (mkF m 89 #[.val (.ref oa), .val (.ref ra), .val (.int vb), .val (.int vc), .val (.int (0 : Int32))] []))
  refine own_Fin.go (fun t k => XS.aloadN X9.here hx rfl (hb hby own_dadd0_89) rfl rfl k) ?_
  show own_Fin _ _ _ _ _ _ _ (T9.setTop (mkF m 90 #[.val (.ref oa), .val (.ref ra), .val (.int vb), .val (.int vc), .val (.int (0 : Int32))] [(.ref oa)]))
  obtain ⟨T10, X10, e10, st10⟩ := getF X9 hx hZ hown (host := "") (Or.inl (hw _ (List.mem_of_getElem? (i := 13) rfl))) Via.refl e9 F_oa_ends_9 (g := (mkF m 90 #[.val (.ref oa), .val (.ref ra), .val (.int vb), .val (.int vc), .val (.int (0 : Int32))] [(.ref oa)])) rfl rfl (hb hby own_dadd0_90)
  refine own_Fin.go st10 ?_
  show own_Fin _ _ _ _ _ _ _ (T10.setTop (mkF m 93 #[.val (.ref oa), .val (.ref ra), .val (.int vb), .val (.int vc), .val (.int (0 : Int32))] [(.ref oe)]))
  refine own_Fin.go (fun t k => XS.aloadN X10.here hx rfl (hb hby own_dadd0_93) rfl rfl k) ?_
  show own_Fin _ _ _ _ _ _ _ (T10.setTop (mkF m 94 #[.val (.ref oa), .val (.ref ra), .val (.int vb), .val (.int vc), .val (.int (0 : Int32))] [(.ref oa), (.ref oe)]))
  refine own_Fin.go (fun t k => XS.dup X10.here hx rfl (hb hby own_dadd0_94) rfl rfl k) ?_
  show own_Fin _ _ _ _ _ _ _ (T10.setTop (mkF m 95 #[.val (.ref oa), .val (.ref ra), .val (.int vb), .val (.int vc), .val (.int (0 : Int32))] [(.ref oa), (.ref oa), (.ref oe)]))
  obtain ⟨T11, X11, e11, st11⟩ := getF X10 hx hZ hown (host := "") (Or.inl (hw _ (List.mem_of_getElem? (i := 20) rfl))) Via.refl e10 F_oa_count_9 (g := (mkF m 95 #[.val (.ref oa), .val (.ref ra), .val (.int vb), .val (.int vc), .val (.int (0 : Int32))] [(.ref oa), (.ref oa), (.ref oe)])) rfl rfl (hb hby own_dadd0_95)
  refine own_Fin.go st11 ?_
  show own_Fin _ _ _ _ _ _ _ (T11.setTop (mkF m 98 #[.val (.ref oa), .val (.ref ra), .val (.int vb), .val (.int vc), .val (.int (0 : Int32))] [(.int (0 : Int32)), (.ref oa), (.ref oe)]))
  refine own_Fin.go (fun t k => XS.dupX1 X11.here hx rfl (hb hby own_dadd0_98) rfl rfl rfl k) ?_
  show own_Fin _ _ _ _ _ _ _ (T11.setTop (mkF m 99 #[.val (.ref oa), .val (.ref ra), .val (.int vb), .val (.int vc), .val (.int (0 : Int32))] [(.int (0 : Int32)), (.ref oa), (.int (0 : Int32)), (.ref oe)]))
  refine own_Fin.go (fun t k => XS.iconst X11.here hx rfl (hb hby own_dadd0_99) k) ?_
  show own_Fin _ _ _ _ _ _ _ (T11.setTop (mkF m 100 #[.val (.ref oa), .val (.ref ra), .val (.int vb), .val (.int vc), .val (.int (0 : Int32))] [(.int (1 : Int32)), (.int (0 : Int32)), (.ref oa), (.int (0 : Int32)), (.ref oe)]))
  refine own_Fin.go (fun t k => XS.iadd X11.here hx rfl (hb hby own_dadd0_100) rfl k) ?_
  show own_Fin _ _ _ _ _ _ _ (T11.setTop (mkF m 101 #[.val (.ref oa), .val (.ref ra), .val (.int vb), .val (.int vc), .val (.int (0 : Int32))] [(.int ((0 : Int32) + (1 : Int32))), (.ref oa), (.int (0 : Int32)), (.ref oe)]))
  rw [show ((0 : Int32) + (1 : Int32)) = (1 : Int32) from by decide +kernel]
  show own_Fin _ _ _ _ _ _ _ (T11.setTop (mkF m 101 #[.val (.ref oa), .val (.ref ra), .val (.int vb), .val (.int vc), .val (.int (0 : Int32))] [(.int (1 : Int32)), (.ref oa), (.int (0 : Int32)), (.ref oe)]))
  obtain ⟨T12, h12, X12, e12, W12, st12⟩ := putF X11 hx hZ hown (host := "") (Or.inl (hw _ (List.mem_of_getElem? (i := 20) rfl))) Via.refl e11 F_oa_count_9 E_oa_9 (Or.inl (hw _ (List.mem_of_getElem? (i := 21) rfl))) (hw _ (List.mem_of_getElem? (i := 2) rfl)) (ty := .int) (by decide) rfl rfl (g := (mkF m 101 #[.val (.ref oa), .val (.ref ra), .val (.int vb), .val (.int vc), .val (.int (0 : Int32))] [(.int (1 : Int32)), (.ref oa), (.int (0 : Int32)), (.ref oe)])) rfl rfl (hb hby own_dadd0_101)
  refine own_Fin.go st12 ?_
  have F_oa_count_12 := Fld.same W12 F_oa_count_9
  have E_oa_12 := Exa.wr W12 E_oa_9
  have F_oa_bytes_12 := Fld.other W12 F_oa_bytes_9 (Or.inr (slot_ne (Or.inl (hw _ (List.mem_of_getElem? (i := 11) rfl))) (Or.inl (hw _ (List.mem_of_getElem? (i := 21) rfl))) (by decide) (t := (.array .byte)) (t' := .int) (by decide) (by decide)))
  have F_oa_ends_12 := Fld.other W12 F_oa_ends_9 (Or.inr (slot_ne (Or.inl (hw _ (List.mem_of_getElem? (i := 14) rfl))) (Or.inl (hw _ (List.mem_of_getElem? (i := 21) rfl))) (by decide) (t := (.array .int)) (t' := .int) (by decide) (by decide)))
  have V_ob_12 := Arv.other V_ob_9 W12 (Ne.symm ne_oa_ob)
  have V_oe_12 := Arv.other V_oe_9 W12 (Ne.symm ne_oa_oe)
  have V_ra_12 := Arv.other V_ra_9 W12 ne_ra_oa
  have Z12 := Nat.le_trans Z9 (Keep.of_wr W12).1
  have K12 := K9.wr W12 (Or.inl (List.mem_of_getElem? (i := 0) rfl))
  have N12 := Fr.snoc X12 N9 g_oa
  show own_Fin _ _ _ _ _ _ _ (T12.setTop (mkF m 104 #[.val (.ref oa), .val (.ref ra), .val (.int vb), .val (.int vc), .val (.int (0 : Int32))] [(.int (0 : Int32)), (.ref oe)]))
  refine own_Fin.go (fun t k => XS.iload X12.here hx rfl (hb hby own_dadd0_104) rfl k) ?_
  show own_Fin _ _ _ _ _ _ _ (T12.setTop (mkF m 106 #[.val (.ref oa), .val (.ref ra), .val (.int vb), .val (.int vc), .val (.int (0 : Int32))] [(.int (0 : Int32)), (.int (0 : Int32)), (.ref oe)]))
  refine own_Fin.go (fun t k => XS.iloadN X12.here hx rfl (hb hby own_dadd0_106) rfl k) ?_
  show own_Fin _ _ _ _ _ _ _ (T12.setTop (mkF m 107 #[.val (.ref oa), .val (.ref ra), .val (.int vb), .val (.int vc), .val (.int (0 : Int32))] [(.int vc), (.int (0 : Int32)), (.int (0 : Int32)), (.ref oe)]))
  refine own_Fin.go (fun t k => XS.iadd X12.here hx rfl (hb hby own_dadd0_107) rfl k) ?_
  show own_Fin _ _ _ _ _ _ _ (T12.setTop (mkF m 108 #[.val (.ref oa), .val (.ref ra), .val (.int vb), .val (.int vc), .val (.int (0 : Int32))] [(.int ((0 : Int32) + vc)), (.int (0 : Int32)), (.ref oe)]))
  obtain ⟨cl13, Ar13, q13, S13, N13l, H13, G13⟩ := (id V_oe_12)
  have hin13 : ¬ ((0 : Int32) < 0 ∨ cl13.slots.size ≤ ((0 : Int32)).toNatClampNeg) := inb_of S13 ⟨by decide, by decide⟩
  obtain ⟨T13, h13, X13, e13, W13, st13⟩ := stI X12 hx hZ e12 Ar13 (j := (0 : Int32)) hin13 (g := (mkF m 108 #[.val (.ref oa), .val (.ref ra), .val (.int vb), .val (.int vc), .val (.int (0 : Int32))] [(.int ((0 : Int32) + vc)), (.int (0 : Int32)), (.ref oe)])) rfl rfl (hb hby own_dadd0_108)
  refine own_Fin.go st13 ?_
  have V_oe_13 := Arv.set Ar13 q13 S13 N13l H13 G13 rfl W13 0 rfl (Nat.le_of_ble_eq_true rfl)
  replace V_oe_13 : Arv Z h13 oe ke .int (16 : Int32) [(.int ((0 : Int32) + vc)), (.int eb), (.int ec), (.int (0 : Int32)), (.int (0 : Int32)), (.int (0 : Int32)), (.int (0 : Int32)), (.int (0 : Int32)), (.int (0 : Int32)), (.int (0 : Int32)), (.int (0 : Int32)), (.int (0 : Int32)), (.int (0 : Int32)), (.int (0 : Int32)), (.int (0 : Int32)), (.int (0 : Int32))] (.int (0 : Int32)) := V_oe_13
  have E_oa_13 := Exa.wr W13 E_oa_12
  have F_oa_bytes_13 := Fld.other W13 F_oa_bytes_12 (Or.inl ne_oa_oe)
  have F_oa_ends_13 := Fld.other W13 F_oa_ends_12 (Or.inl ne_oa_oe)
  have F_oa_count_13 := Fld.other W13 F_oa_count_12 (Or.inl ne_oa_oe)
  have V_ob_13 := Arv.other V_ob_12 W13 ne_ob_oe
  have V_ra_13 := Arv.other V_ra_12 W13 ne_ra_oe
  have Z13 := Nat.le_trans Z12 (Keep.of_wr W13).1
  have K13 := K12.wr W13 (Or.inl (List.mem_of_getElem? (i := 2) rfl))
  have N13 := Fr.snoc X13 N12 g_oe
  show own_Fin _ _ _ _ _ _ _ (T13.setTop (mkF m 109 #[.val (.ref oa), .val (.ref ra), .val (.int vb), .val (.int vc), .val (.int (0 : Int32))] []))
  refine own_ret0 X13 hx Bd.returns (hb hby own_dadd0_109) Bd.notSynchronized (by decide) (by decide) ?_
  rw [e13]
  exact ⟨rfl, N13, K13, E_oa_13, F_oa_bytes_13, F_oa_ends_13, F_oa_count_13, V_ob_13, V_oe_13⟩
theorem own_dadd1_0 : decode prog_16_method_2_code 0 = .ok (.aload_n 0, 1) := by decide +kernel
theorem own_dadd1_1 : decode prog_16_method_2_code 1 = .ok (.aload_n 0, 1) := by decide +kernel
theorem own_dadd1_2 : decode prog_16_method_2_code 2 = .ok (.getfield 17, 3) := by decide +kernel
theorem own_dadd1_5 : decode prog_16_method_2_code 5 = .ok (.invokevirtual 21, 3) := by decide +kernel
theorem own_dadd1_8 : decode prog_16_method_2_code 8 = .ok (.istore 4, 2) := by decide +kernel
theorem own_dadd1_10 : decode prog_16_method_2_code 10 = .ok (.aload_n 0, 1) := by decide +kernel
theorem own_dadd1_11 : decode prog_16_method_2_code 11 = .ok (.getfield 9, 3) := by decide +kernel
theorem own_dadd1_14 : decode prog_16_method_2_code 14 = .ok (.arraylength, 1) := by decide +kernel
theorem own_dadd1_15 : decode prog_16_method_2_code 15 = .ok (.iload 4, 2) := by decide +kernel
theorem own_dadd1_17 : decode prog_16_method_2_code 17 = .ok (.isub, 1) := by decide +kernel
theorem own_dadd1_18 : decode prog_16_method_2_code 18 = .ok (.iload_n 3, 1) := by decide +kernel
theorem own_dadd1_19 : decode prog_16_method_2_code 19 = .ok (.if_icmp .ge 28, 3) := by decide +kernel
theorem own_dadd1_47 : decode prog_16_method_2_code 47 = .ok (.aload_n 0, 1) := by decide +kernel
theorem own_dadd1_48 : decode prog_16_method_2_code 48 = .ok (.getfield 17, 3) := by decide +kernel
theorem own_dadd1_51 : decode prog_16_method_2_code 51 = .ok (.aload_n 0, 1) := by decide +kernel
theorem own_dadd1_52 : decode prog_16_method_2_code 52 = .ok (.getfield 13, 3) := by decide +kernel
theorem own_dadd1_55 : decode prog_16_method_2_code 55 = .ok (.arraylength, 1) := by decide +kernel
theorem own_dadd1_56 : decode prog_16_method_2_code 56 = .ok (.if_icmp .ne 21, 3) := by decide +kernel
theorem own_dadd1_77 : decode prog_16_method_2_code 77 = .ok (.aload_n 1, 1) := by decide +kernel
theorem own_dadd1_78 : decode prog_16_method_2_code 78 = .ok (.iload_n 2, 1) := by decide +kernel
theorem own_dadd1_79 : decode prog_16_method_2_code 79 = .ok (.aload_n 0, 1) := by decide +kernel
theorem own_dadd1_80 : decode prog_16_method_2_code 80 = .ok (.getfield 9, 3) := by decide +kernel
theorem own_dadd1_83 : decode prog_16_method_2_code 83 = .ok (.iload 4, 2) := by decide +kernel
theorem own_dadd1_85 : decode prog_16_method_2_code 85 = .ok (.iload_n 3, 1) := by decide +kernel
theorem own_dadd1_86 : decode prog_16_method_2_code 86 = .ok (.invokestatic 40, 3) := by decide +kernel
theorem own_dadd1_89 : decode prog_16_method_2_code 89 = .ok (.aload_n 0, 1) := by decide +kernel
theorem own_dadd1_90 : decode prog_16_method_2_code 90 = .ok (.getfield 13, 3) := by decide +kernel
theorem own_dadd1_93 : decode prog_16_method_2_code 93 = .ok (.aload_n 0, 1) := by decide +kernel
theorem own_dadd1_94 : decode prog_16_method_2_code 94 = .ok (.dup, 1) := by decide +kernel
theorem own_dadd1_95 : decode prog_16_method_2_code 95 = .ok (.getfield 17, 3) := by decide +kernel
theorem own_dadd1_98 : decode prog_16_method_2_code 98 = .ok (.dup_x1, 1) := by decide +kernel
theorem own_dadd1_99 : decode prog_16_method_2_code 99 = .ok (.iconst 1, 1) := by decide +kernel
theorem own_dadd1_100 : decode prog_16_method_2_code 100 = .ok (.iadd, 1) := by decide +kernel
theorem own_dadd1_101 : decode prog_16_method_2_code 101 = .ok (.putfield 17, 3) := by decide +kernel
theorem own_dadd1_104 : decode prog_16_method_2_code 104 = .ok (.iload 4, 2) := by decide +kernel
theorem own_dadd1_106 : decode prog_16_method_2_code 106 = .ok (.iload_n 3, 1) := by decide +kernel
theorem own_dadd1_107 : decode prog_16_method_2_code 107 = .ok (.iadd, 1) := by decide +kernel
theorem own_dadd1_108 : decode prog_16_method_2_code 108 = .ok (.iastore, 1) := by decide +kernel
theorem own_dadd1_109 : decode prog_16_method_2_code 109 = .ok (.return_, 1) := by decide +kernel
theorem own_ef_add1 (m : MethodId) (oa : Addr) (ra : Addr) (vb : Int32) (vc : Int32) : entryFrame m #[(.ref oa), (.ref ra), (.int vb), (.int vc)] 5 = mkF m 0 #[.val (.ref oa), .val (.ref ra), .val (.int vb), .val (.int vc), .unset] [] := by first | (simp [entryFrame, mkF, argsToLocals, Value.category]; done) | rfl
def own_Q_add1 (Z : State) (oa : Addr) (ra : Addr) (vb : Int32) (vc : Int32) (ob : Addr) (kb : ClassId) (ks : ClassId) (LB : List Int32) (LS : List Int32) (oe : Addr) (ke : ClassId) (ea : Int32) (eb : Int32) (ec : Int32) (h0 : Heap) (n0 : Nat) (v : Option Value) (h : Heap) (L : List Loc) : Prop := v = none ∧ Fr n0 L ∧ Keep h0 h [oa, ob, oe] ∧ Exa Z h oa "com/example/wardkeeper/wardkeeper/hl7/Lines" ∧ Fld Z h oa "com/example/wardkeeper/wardkeeper/hl7/Lines" "bytes" "[B" (.ref ob) ∧ Fld Z h oa "com/example/wardkeeper/wardkeeper/hl7/Lines" "ends" "[I" (.ref oe) ∧ Fld Z h oa "com/example/wardkeeper/wardkeeper/hl7/Lines" "count" "I" (.int (2 : Int32)) ∧ Arv Z h ob kb .byte (1024 : Int32) ((own_cp LB LS ea vb vc).map Value.int) (.int (0 : Int32)) ∧ Arv Z h oe ke .int (16 : Int32) [(.int ea), (.int (ea + vc)), (.int ec), (.int (0 : Int32)), (.int (0 : Int32)), (.int (0 : Int32)), (.int (0 : Int32)), (.int (0 : Int32)), (.int (0 : Int32)), (.int (0 : Int32)), (.int (0 : Int32)), (.int (0 : Int32)), (.int (0 : Int32)), (.int (0 : Int32)), (.int (0 : Int32)), (.int (0 : Int32))] (.int (0 : Int32))
set_option maxRecDepth 65536 in
set_option maxHeartbeats 40000000 in
theorem own_rm_add1 (l : Launch) (Z : State) (a0 : Array Value) (hw : ∀ d ∈ tables_1, d.before a0 Z = true) (ws : List Jvm.Cond) (oa : Addr) (ra : Addr) (vb : Int32) (vc : Int32) (ob : Addr) (kb : ClassId) (ks : ClassId) (LB : List Int32) (LS : List Int32) (oe : Addr) (ke : ClassId) (ea : Int32) (eb : Int32) (ec : Int32) (h0 : Heap) (n0 : Nat) (Z0 : n0 ≤ h0.size) (E_oa : Exa Z h0 oa "com/example/wardkeeper/wardkeeper/hl7/Lines") (F_oa_bytes : Fld Z h0 oa "com/example/wardkeeper/wardkeeper/hl7/Lines" "bytes" "[B" (.ref ob)) (F_oa_ends : Fld Z h0 oa "com/example/wardkeeper/wardkeeper/hl7/Lines" "ends" "[I" (.ref oe)) (F_oa_count : Fld Z h0 oa "com/example/wardkeeper/wardkeeper/hl7/Lines" "count" "I" (.int (1 : Int32))) (V_ob : Arv Z h0 ob kb .byte (1024 : Int32) (LB.map Value.int) (.int (0 : Int32))) (V_oe : Arv Z h0 oe ke .int (16 : Int32) [(.int ea), (.int eb), (.int ec), (.int (0 : Int32)), (.int (0 : Int32)), (.int (0 : Int32)), (.int (0 : Int32)), (.int (0 : Int32)), (.int (0 : Int32)), (.int (0 : Int32)), (.int (0 : Int32)), (.int (0 : Int32)), (.int (0 : Int32)), (.int (0 : Int32)), (.int (0 : Int32)), (.int (0 : Int32))] (.int (0 : Int32))) (V_ra : Arv Z h0 ra ks .byte (8 : Int32) (LS.map Value.int) (.int (0 : Int32))) (g_oa : n0 ≤ oa) (g_ob : n0 ≤ ob) (g_oe : n0 ≤ oe) (ne_oa_ob : oa ≠ ob) (ne_oa_oe : oa ≠ oe) (ne_ob_oe : ob ≠ oe) (ne_ra_oa : ra ≠ oa) (ne_ra_ob : ra ≠ ob) (ne_ra_oe : ra ≠ oe) (hbd : own_bd vb vc) (hok : own_ok 100 ea) (hL : LB.length = 1024) :
    MetFree l (⟨"com/example/wardkeeper/wardkeeper/hl7/Lines", "add", "([BII)V"⟩ : MethodName) (head1 (Jvm.Cond.code (⟨"com/example/wardkeeper/wardkeeper/hl7/Lines", "add", "([BII)V"⟩ : MethodName) prog_16_method_2_code 5 none :: ws) ({ frames := 1, cells := 0, slots := 0, locals := 18 } : Room)) (fun a U => a = #[(.ref oa), (.ref ra), (.int vb), (.int vc)] ∧ Z.Warmed39 U.vm ∧ U.heap = h0) (fun _ _ _ _ _ => True) (fun _ U o U' => ∃ v L, o = .returned v ∧ own_Q_add1 Z oa ra vb vc ob kb ks LB LS oe ke ea eb ec h0 n0 v U'.heap L ∧ FrameEnd U o U' L ({ frames := 1, cells := 0, slots := 0, locals := 18 } : Room).cells ({ frames := 1, cells := 0, slots := 0, locals := 18 } : Room).slots) := by
  refine MetFree.of_bodySF (plainFor_of_name own_pn0) hisR ?_
  intro p e s m args below meth c s₁ Bd hml0 hP hK
  obtain ⟨rfl, hZ, hh⟩ := hP
  have hx := Bd.exec
  have hby := Bd.bytes
  have hml : c.maxLocals = 5 := hml0
  have hown : s.vm.findClass "com/example/wardkeeper/wardkeeper/hl7/Lines" = some m.cls := findClass_of_methodNamed Bd.named
  have hnm := (name_of_methodNamed Bd.named Bd.method).1
  have X0 : Stand p l e ({ frames := 1, cells := 0, slots := 0, locals := 18 } : Room) s m #[(.ref oa), (.ref ra), (.int vb), (.int vc)] below meth c s₁ [] 0 0 := Stand.of_body Bd
  have e0 : s₁.heap = h0 := by rw [← hh, Bd.state]; rfl
  have N0 := Fr.nil n0
  have K0 := Keep.refl h0 [oa, ob, oe]
  show own_Fin p e below s (own_Q_add1 Z oa ra vb vc ob kb ks LB LS oe ke ea eb ec h0 n0) ({ frames := 1, cells := 0, slots := 0, locals := 18 } : Room).cells ({ frames := 1, cells := 0, slots := 0, locals := 18 } : Room).slots (s₁.setTop (entryFrame m #[(.ref oa), (.ref ra), (.int vb), (.int vc)] 5))
  refine own_Fin.go (fun t k => castTop (own_ef_add1 m oa ra vb vc) k) ?_
  refine own_Fin.go (fun t k => XS.aloadN X0.here hx rfl (hb hby own_dadd1_0) rfl rfl k) ?_
  show own_Fin _ _ _ _ _ _ _ (s₁.setTop (mkF m 1 #[.val (.ref oa), .val (.ref ra), .val (.int vb), .val (.int vc), .unset] [(.ref oa)]))
  refine own_Fin.go (fun t k => XS.aloadN X0.here hx rfl (hb hby own_dadd1_1) rfl rfl k) ?_
  show own_Fin _ _ _ _ _ _ _ (s₁.setTop (mkF m 2 #[.val (.ref oa), .val (.ref ra), .val (.int vb), .val (.int vc), .unset] [(.ref oa), (.ref oa)]))
  obtain ⟨T1, X1, e1, st1⟩ := getF X0 hx hZ hown (host := "") (Or.inl (hw _ (List.mem_of_getElem? (i := 20) rfl))) Via.refl e0 F_oa_count (g := (mkF m 2 #[.val (.ref oa), .val (.ref ra), .val (.int vb), .val (.int vc), .unset] [(.ref oa), (.ref oa)])) rfl rfl (hb hby own_dadd1_2)
  refine own_Fin.go st1 ?_
  show own_Fin _ _ _ _ _ _ _ (T1.setTop (mkF m 5 #[.val (.ref oa), .val (.ref ra), .val (.int vb), .val (.int vc), .unset] [(.int (1 : Int32)), (.ref oa)]))
  obtain ⟨cq2, q2, q2'⟩ := E_oa.cell
  obtain ⟨_, _, ⟨T2, L2, k2, n2⟩, -, X2, ⟨Lc2, hQ2, l2, y2, z2⟩, st2⟩ := X1.privateBack hx (y := (⟨"com/example/wardkeeper/wardkeeper/hl7/Lines", "start", "(I)I"⟩ : MethodName)) hown (mvT hZ (hw _ (List.mem_of_getElem? (i := 27) rfl))) (mvT hZ (hw _ (List.mem_of_getElem? (i := 28) rfl))) (own_selp (y := (⟨"com/example/wardkeeper/wardkeeper/hl7/Lines", "start", "(I)I"⟩ : MethodName)) (mvT hZ (hw _ (List.mem_of_getElem? (i := 18) rfl)) (args := #[])) rfl (Cond.privateMethod_at (mvP hZ (hw _ (List.mem_of_getElem? (i := 29) rfl)) (args := #[]))) (mvT hZ (hw _ (List.mem_of_getElem? (i := 28) rfl)) (args := #[])) (by decide)) (Cond.privateMethod_at (mvP hZ (hw _ (List.mem_of_getElem? (i := 29) rfl)) (args := #[]))) (mvT hZ (hw _ (List.mem_of_getElem? (i := 30) rfl))) (by decide) (backOf (W := 0) (own_rm_st1 l Z a0 hw [] oa oe ke ea eb ec h0 n0 Z0 F_oa_ends V_oe) hZ (hw _ (List.mem_of_getElem? (i := 30) rfl)) (hw _ (List.mem_of_getElem? (i := 3) rfl)) (by decide) (by decide)) (g := (mkF m 5 #[.val (.ref oa), .val (.ref ra), .val (.int vb), .val (.int vc), .unset] [(.int (1 : Int32)), (.ref oa)])) rfl (by rw [hml]; rfl) (Steps.refl _) (a := oa) (by rw [e1]; exact q2) q2' (argsL := [(.int (1 : Int32))]) (rest := []) (lenOf own_pd0 rfl) rfl (by show 2 * 0 + _ ≤ _; exact Nat.le_of_eq rfl) (hb hby own_dadd1_5) (fun _ _ => ⟨rfl, e1, (by decide : 0 + 0 ≤ _), (by decide : 0 + 0 ≤ _)⟩)
  dsimp only [Pt.U, Pt.locs, Pt.cells, Pt.slots] at X2 l2 y2 z2 st2 hQ2
  subst l2 y2 z2
  obtain ⟨rfl, N2q, e2⟩ := hQ2
  refine own_Fin.go (fun t k => st2.trans k) ?_
  have N2 := Fr.app N0 N2q
  show own_Fin _ _ _ _ _ _ _ (T2.setTop (mkF m 8 #[.val (.ref oa), .val (.ref ra), .val (.int vb), .val (.int vc), .unset] [(.int ea)]))
  refine own_Fin.go (fun t k => XS.istore X2.here hx rfl (hb hby own_dadd1_8) rfl (l' := #[.val (.ref oa), .val (.ref ra), .val (.int vb), .val (.int vc), .val (.int ea)]) rfl k) ?_
  show own_Fin _ _ _ _ _ _ _ (T2.setTop (mkF m 10 #[.val (.ref oa), .val (.ref ra), .val (.int vb), .val (.int vc), .val (.int ea)] []))
  refine own_Fin.go (fun t k => XS.aloadN X2.here hx rfl (hb hby own_dadd1_10) rfl rfl k) ?_
  show own_Fin _ _ _ _ _ _ _ (T2.setTop (mkF m 11 #[.val (.ref oa), .val (.ref ra), .val (.int vb), .val (.int vc), .val (.int ea)] [(.ref oa)]))
  obtain ⟨T3, X3, e3, st3⟩ := getF X2 hx hZ hown (host := "") (Or.inl (hw _ (List.mem_of_getElem? (i := 10) rfl))) Via.refl e2 F_oa_bytes (g := (mkF m 11 #[.val (.ref oa), .val (.ref ra), .val (.int vb), .val (.int vc), .val (.int ea)] [(.ref oa)])) rfl rfl (hb hby own_dadd1_11)
  refine own_Fin.go st3 ?_
  show own_Fin _ _ _ _ _ _ _ (T3.setTop (mkF m 14 #[.val (.ref oa), .val (.ref ra), .val (.int vb), .val (.int vc), .val (.int ea)] [(.ref ob)]))
  obtain ⟨cl4, Ar4, -, S4, N4l, -, -⟩ := (id V_ob)
  refine own_Fin.go (fun t k => X3.arraylength hx (by rw [e3]; exact Ar4.1) (State.isArrayOf_alike hZ.alike Ar4.2.1) (g := (mkF m 14 #[.val (.ref oa), .val (.ref ra), .val (.int vb), .val (.int vc), .val (.int ea)] [(.ref ob)])) rfl rfl (hb hby own_dadd1_14) t k) ?_
  rw [len_of S4 N4l]
  show own_Fin _ _ _ _ _ _ _ (T3.setTop (mkF m 15 #[.val (.ref oa), .val (.ref ra), .val (.int vb), .val (.int vc), .val (.int ea)] [(.int (1024 : Int32))]))
  refine own_Fin.go (fun t k => XS.iload X3.here hx rfl (hb hby own_dadd1_15) rfl k) ?_
  show own_Fin _ _ _ _ _ _ _ (T3.setTop (mkF m 17 #[.val (.ref oa), .val (.ref ra), .val (.int vb), .val (.int vc), .val (.int ea)] [(.int ea), (.int (1024 : Int32))]))
  refine own_Fin.go (fun t k => XS.isub X3.here hx rfl (hb hby own_dadd1_17) rfl k) ?_
  show own_Fin _ _ _ _ _ _ _ (T3.setTop (mkF m 18 #[.val (.ref oa), .val (.ref ra), .val (.int vb), .val (.int vc), .val (.int ea)] [(.int ((1024 : Int32) - ea))]))
  refine own_Fin.go (fun t k => XS.iloadN X3.here hx rfl (hb hby own_dadd1_18) rfl k) ?_
  show own_Fin _ _ _ _ _ _ _ (T3.setTop (mkF m 19 #[.val (.ref oa), .val (.ref ra), .val (.int vb), .val (.int vc), .val (.int ea)] [(.int vc), (.int ((1024 : Int32) - ea))]))
  have hc19 : ¬ (((1024 : Int32) - ea) < vc) := own_room hok hbd
  refine own_Fin.go (fun t k => XS.icmpYes X3.here hx rfl (pc0 := 19) (pc' := 47) rfl (hb hby own_dadd1_19) rfl (Jvm.Free.XT.ii_ge_t hc19) (by decide) (by decide) k) ?_
  show own_Fin _ _ _ _ _ _ _ (T3.setTop (mkF m 47 #[.val (.ref oa), .val (.ref ra), .val (.int vb), .val (.int vc), .val (.int ea)] []))
  refine own_Fin.go (fun t k => XS.aloadN X3.here hx rfl (hb hby own_dadd1_47) rfl rfl k) ?_
  show own_Fin _ _ _ _ _ _ _ (T3.setTop (mkF m 48 #[.val (.ref oa), .val (.ref ra), .val (.int vb), .val (.int vc), .val (.int ea)] [(.ref oa)]))
  obtain ⟨T5, X5, e5, st5⟩ := getF X3 hx hZ hown (host := "") (Or.inl (hw _ (List.mem_of_getElem? (i := 20) rfl))) Via.refl e3 F_oa_count (g := (mkF m 48 #[.val (.ref oa), .val (.ref ra), .val (.int vb), .val (.int vc), .val (.int ea)] [(.ref oa)])) rfl rfl (hb hby own_dadd1_48)
  refine own_Fin.go st5 ?_
  show own_Fin _ _ _ _ _ _ _ (T5.setTop (mkF m 51 #[.val (.ref oa), .val (.ref ra), .val (.int vb), .val (.int vc), .val (.int ea)] [(.int (1 : Int32))]))
  refine own_Fin.go (fun t k => XS.aloadN X5.here hx rfl (hb hby own_dadd1_51) rfl rfl k) ?_
  show own_Fin _ _ _ _ _ _ _ (T5.setTop (mkF m 52 #[.val (.ref oa), .val (.ref ra), .val (.int vb), .val (.int vc), .val (.int ea)] [(.ref oa), (.int (1 : Int32))]))
  obtain ⟨T6, X6, e6, st6⟩ := getF X5 hx hZ hown (host := "") (Or.inl (hw _ (List.mem_of_getElem? (i := 13) rfl))) Via.refl e5 F_oa_ends (g := (mkF m 52 #[.val (.ref oa), .val (.ref ra), .val (.int vb), .val (.int vc), .val (.int ea)] [(.ref oa), (.int (1 : Int32))])) rfl rfl (hb hby own_dadd1_52)
  refine own_Fin.go st6 ?_
  show own_Fin _ _ _ _ _ _ _ (T6.setTop (mkF m 55 #[.val (.ref oa), .val (.ref ra), .val (.int vb), .val (.int vc), .val (.int ea)] [(.ref oe), (.int (1 : Int32))]))
  obtain ⟨cl7, Ar7, -, S7, N7l, -, -⟩ := (id V_oe)
  refine own_Fin.go (fun t k => X6.arraylength hx (by rw [e6]; exact Ar7.1) (State.isArrayOf_alike hZ.alike Ar7.2.1) (g := (mkF m 55 #[.val (.ref oa), .val (.ref ra), .val (.int vb), .val (.int vc), .val (.int ea)] [(.ref oe), (.int (1 : Int32))])) rfl rfl (hb hby own_dadd1_55) t k) ?_
  rw [len_of S7 N7l]
  show own_Fin _ _ _ _ _ _ _ (T6.setTop (mkF m 56 #[.val (.ref oa), .val (.ref ra), .val (.int vb), .val (.int vc), .val (.int ea)] [(.int (16 : Int32)), (.int (1 : Int32))]))
  refine own_Fin.go (fun t k => XS.icmpYes X6.here hx rfl (pc0 := 56) (pc' := 77) rfl (hb hby own_dadd1_56) rfl (by decide) (by decide) (by decide) k) ?_
  show own_Fin _ _ _ _ _ _ _ (T6.setTop (mkF m 77 #[.val (.ref oa), .val (.ref ra), .val (.int vb), .val (.int vc), .val (.int ea)] []))
  refine own_Fin.go (fun t k => XS.aloadN X6.here hx rfl (hb hby own_dadd1_77) rfl rfl k) ?_
  show own_Fin _ _ _ _ _ _ _ (T6.setTop (mkF m 78 #[.val (.ref oa), .val (.ref ra), .val (.int vb), .val (.int vc), .val (.int ea)] [(.ref ra)]))
  refine own_Fin.go (fun t k => XS.iloadN X6.here hx rfl (hb hby own_dadd1_78) rfl k) ?_
  show own_Fin _ _ _ _ _ _ _ (T6.setTop (mkF m 79 #[.val (.ref oa), .val (.ref ra), .val (.int vb), .val (.int vc), .val (.int ea)] [(.int vb), (.ref ra)]))
  refine own_Fin.go (fun t k => XS.aloadN X6.here hx rfl (hb hby own_dadd1_79) rfl rfl k) ?_
  show own_Fin _ _ _ _ _ _ _ (T6.setTop (mkF m 80 #[.val (.ref oa), .val (.ref ra), .val (.int vb), .val (.int vc), .val (.int ea)] [(.ref oa), (.int vb), (.ref ra)]))
  obtain ⟨T8, X8, e8, st8⟩ := getF X6 hx hZ hown (host := "") (Or.inl (hw _ (List.mem_of_getElem? (i := 10) rfl))) Via.refl e6 F_oa_bytes (g := (mkF m 80 #[.val (.ref oa), .val (.ref ra), .val (.int vb), .val (.int vc), .val (.int ea)] [(.ref oa), (.int vb), (.ref ra)])) rfl rfl (hb hby own_dadd1_80)
  refine own_Fin.go st8 ?_
  show own_Fin _ _ _ _ _ _ _ (T8.setTop (mkF m 83 #[.val (.ref oa), .val (.ref ra), .val (.int vb), .val (.int vc), .val (.int ea)] [(.ref ob), (.int vb), (.ref ra)]))
  refine own_Fin.go (fun t k => XS.iload X8.here hx rfl (hb hby own_dadd1_83) rfl k) ?_
  show own_Fin _ _ _ _ _ _ _ (T8.setTop (mkF m 85 #[.val (.ref oa), .val (.ref ra), .val (.int vb), .val (.int vc), .val (.int ea)] [(.int ea), (.ref ob), (.int vb), (.ref ra)]))
  refine own_Fin.go (fun t k => XS.iloadN X8.here hx rfl (hb hby own_dadd1_85) rfl k) ?_
  show own_Fin _ _ _ _ _ _ _ (T8.setTop (mkF m 86 #[.val (.ref oa), .val (.ref ra), .val (.int vb), .val (.int vc), .val (.int ea)] [(.int vc), (.int ea), (.ref ob), (.int vb), (.ref ra)]))
  obtain ⟨T9, h9, L9, X9, e9, N9, K9q, V9c, st9⟩ := cpA X8 hx hZ hown (hw _ (List.mem_of_getElem? (i := 31) rfl)) (hw _ (List.mem_of_getElem? (i := 34) rfl)) (hw _ (List.mem_of_getElem? (i := 32) rfl)) (hw _ (List.mem_of_getElem? (i := 33) rfl)) e8 V_ra V_ob (us := ((own_sl LS vb vc).map Value.int)) (Or.inl ⟨rfl, rfl⟩) hbd.1 hok.1 hbd.2.1 (own_c8 hbd) (own_c1024 hok hbd) (own_hus LS vb vc) (by rw [List.length_map, hL]; exact own_c1024 hok hbd) N2 g_ob (g := (mkF m 86 #[.val (.ref oa), .val (.ref ra), .val (.int vb), .val (.int vc), .val (.int ea)] [(.int vc), (.int ea), (.ref ob), (.int vb), (.ref ra)])) rfl (by rw [hml]; rfl) rfl (hb hby own_dadd1_86) (by decide) (W := 0) (by show 2 * 0 + _ ≤ _; exact Nat.le_of_eq rfl) (by decide)
  refine own_Fin.go st9 ?_
  have V_ob_9 : Arv Z h9 ob kb .byte (1024 : Int32) ((own_cp LB LS ea vb vc).map Value.int) (.int (0 : Int32)) := (by have q := V9c; rw [own_cpMap] at q; exact q)
  have E_oa_9 := E_oa.keep K9q
  have F_oa_bytes_9 := F_oa_bytes.keep K9q (ninS ne_oa_ob nin0)
  have F_oa_ends_9 := F_oa_ends.keep K9q (ninS ne_oa_ob nin0)
  have F_oa_count_9 := F_oa_count.keep K9q (ninS ne_oa_ob nin0)
  have V_oe_9 := V_oe.keep K9q (ninS (Ne.symm ne_ob_oe) nin0)
  have V_ra_9 := V_ra.keep K9q (ninS ne_ra_ob nin0)
  have Z9 := Nat.le_trans Z0 K9q.1
  have K9 := K0.trans K9q (allS (Or.inl (List.mem_of_getElem? (i := 1) rfl)) all0)
  show own_Fin _ _ _ _ _ _ _ (T9.setTop (mkF m 89 #[.val (.ref oa), .val (.ref ra), .val (.int vb), .val (.int vc), .val (.int ea)] []))
  refine own_Fin.go (fun t k => XS.aloadN X9.here hx rfl (hb hby own_dadd1_89) rfl rfl k) ?_
  show own_Fin _ _ _ _ _ _ _ (T9.setTop (mkF m 90 #[.val (.ref oa), .val (.ref ra), .val (.int vb), .val (.int vc), .val (.int ea)] [(.ref oa)]))
  obtain ⟨T10, X10, e10, st10⟩ := getF X9 hx hZ hown (host := "") (Or.inl (hw _ (List.mem_of_getElem? (i := 13) rfl))) Via.refl e9 F_oa_ends_9 (g := (mkF m 90 #[.val (.ref oa), .val (.ref ra), .val (.int vb), .val (.int vc), .val (.int ea)] [(.ref oa)])) rfl rfl (hb hby own_dadd1_90)
  refine own_Fin.go st10 ?_
  show own_Fin _ _ _ _ _ _ _ (T10.setTop (mkF m 93 #[.val (.ref oa), .val (.ref ra), .val (.int vb), .val (.int vc), .val (.int ea)] [(.ref oe)]))
  refine own_Fin.go (fun t k => XS.aloadN X10.here hx rfl (hb hby own_dadd1_93) rfl rfl k) ?_
  show own_Fin _ _ _ _ _ _ _ (T10.setTop (mkF m 94 #[.val (.ref oa), .val (.ref ra), .val (.int vb), .val (.int vc), .val (.int ea)] [(.ref oa), (.ref oe)]))
  refine own_Fin.go (fun t k => XS.dup X10.here hx rfl (hb hby own_dadd1_94) rfl rfl k) ?_
  show own_Fin _ _ _ _ _ _ _ (T10.setTop (mkF m 95 #[.val (.ref oa), .val (.ref ra), .val (.int vb), .val (.int vc), .val (.int ea)] [(.ref oa), (.ref oa), (.ref oe)]))
  obtain ⟨T11, X11, e11, st11⟩ := getF X10 hx hZ hown (host := "") (Or.inl (hw _ (List.mem_of_getElem? (i := 20) rfl))) Via.refl e10 F_oa_count_9 (g := (mkF m 95 #[.val (.ref oa), .val (.ref ra), .val (.int vb), .val (.int vc), .val (.int ea)] [(.ref oa), (.ref oa), (.ref oe)])) rfl rfl (hb hby own_dadd1_95)
  refine own_Fin.go st11 ?_
  show own_Fin _ _ _ _ _ _ _ (T11.setTop (mkF m 98 #[.val (.ref oa), .val (.ref ra), .val (.int vb), .val (.int vc), .val (.int ea)] [(.int (1 : Int32)), (.ref oa), (.ref oe)]))
  refine own_Fin.go (fun t k => XS.dupX1 X11.here hx rfl (hb hby own_dadd1_98) rfl rfl rfl k) ?_
  show own_Fin _ _ _ _ _ _ _ (T11.setTop (mkF m 99 #[.val (.ref oa), .val (.ref ra), .val (.int vb), .val (.int vc), .val (.int ea)] [(.int (1 : Int32)), (.ref oa), (.int (1 : Int32)), (.ref oe)]))
  refine own_Fin.go (fun t k => XS.iconst X11.here hx rfl (hb hby own_dadd1_99) k) ?_
  show own_Fin _ _ _ _ _ _ _ (T11.setTop (mkF m 100 #[.val (.ref oa), .val (.ref ra), .val (.int vb), .val (.int vc), .val (.int ea)] [(.int (1 : Int32)), (.int (1 : Int32)), (.ref oa), (.int (1 : Int32)), (.ref oe)]))
  refine own_Fin.go (fun t k => XS.iadd X11.here hx rfl (hb hby own_dadd1_100) rfl k) ?_
  show own_Fin _ _ _ _ _ _ _ (T11.setTop (mkF m 101 #[.val (.ref oa), .val (.ref ra), .val (.int vb), .val (.int vc), .val (.int ea)] [(.int ((1 : Int32) + (1 : Int32))), (.ref oa), (.int (1 : Int32)), (.ref oe)]))
  rw [show ((1 : Int32) + (1 : Int32)) = (2 : Int32) from by decide +kernel]
  show own_Fin _ _ _ _ _ _ _ (T11.setTop (mkF m 101 #[.val (.ref oa), .val (.ref ra), .val (.int vb), .val (.int vc), .val (.int ea)] [(.int (2 : Int32)), (.ref oa), (.int (1 : Int32)), (.ref oe)]))
  obtain ⟨T12, h12, X12, e12, W12, st12⟩ := putF X11 hx hZ hown (host := "") (Or.inl (hw _ (List.mem_of_getElem? (i := 20) rfl))) Via.refl e11 F_oa_count_9 E_oa_9 (Or.inl (hw _ (List.mem_of_getElem? (i := 21) rfl))) (hw _ (List.mem_of_getElem? (i := 2) rfl)) (ty := .int) (by decide) rfl rfl (g := (mkF m 101 #[.val (.ref oa), .val (.ref ra), .val (.int vb), .val (.int vc), .val (.int ea)] [(.int (2 : Int32)), (.ref oa), (.int (1 : Int32)), (.ref oe)])) rfl rfl (hb hby own_dadd1_101)
  refine own_Fin.go st12 ?_
  have F_oa_count_12 := Fld.same W12 F_oa_count_9
  have E_oa_12 := Exa.wr W12 E_oa_9
  have F_oa_bytes_12 := Fld.other W12 F_oa_bytes_9 (Or.inr (slot_ne (Or.inl (hw _ (List.mem_of_getElem? (i := 11) rfl))) (Or.inl (hw _ (List.mem_of_getElem? (i := 21) rfl))) (by decide) (t := (.array .byte)) (t' := .int) (by decide) (by decide)))
  have F_oa_ends_12 := Fld.other W12 F_oa_ends_9 (Or.inr (slot_ne (Or.inl (hw _ (List.mem_of_getElem? (i := 14) rfl))) (Or.inl (hw _ (List.mem_of_getElem? (i := 21) rfl))) (by decide) (t := (.array .int)) (t' := .int) (by decide) (by decide)))
  have V_ob_12 := Arv.other V_ob_9 W12 (Ne.symm ne_oa_ob)
  have V_oe_12 := Arv.other V_oe_9 W12 (Ne.symm ne_oa_oe)
  have V_ra_12 := Arv.other V_ra_9 W12 ne_ra_oa
  have Z12 := Nat.le_trans Z9 (Keep.of_wr W12).1
  have K12 := K9.wr W12 (Or.inl (List.mem_of_getElem? (i := 0) rfl))
  have N12 := Fr.snoc X12 N9 g_oa
  show own_Fin _ _ _ _ _ _ _ (T12.setTop (mkF m 104 #[.val (.ref oa), .val (.ref ra), .val (.int vb), .val (.int vc), .val (.int ea)] [(.int (1 : Int32)), (.ref oe)]))
  refine own_Fin.go (fun t k => XS.iload X12.here hx rfl (hb hby own_dadd1_104) rfl k) ?_
  show own_Fin _ _ _ _ _ _ _ (T12.setTop (mkF m 106 #[.val (.ref oa), .val (.ref ra), .val (.int vb), .val (.int vc), .val (.int ea)] [(.int ea), (.int (1 : Int32)), (.ref oe)]))
  refine own_Fin.go (fun t k => XS.iloadN X12.here hx rfl (hb hby own_dadd1_106) rfl k) ?_
  show own_Fin _ _ _ _ _ _ _ (T12.setTop (mkF m 107 #[.val (.ref oa), .val (.ref ra), .val (.int vb), .val (.int vc), .val (.int ea)] [(.int vc), (.int ea), (.int (1 : Int32)), (.ref oe)]))
  refine own_Fin.go (fun t k => XS.iadd X12.here hx rfl (hb hby own_dadd1_107) rfl k) ?_
  show own_Fin _ _ _ _ _ _ _ (T12.setTop (mkF m 108 #[.val (.ref oa), .val (.ref ra), .val (.int vb), .val (.int vc), .val (.int ea)] [(.int (ea + vc)), (.int (1 : Int32)), (.ref oe)]))
  obtain ⟨cl13, Ar13, q13, S13, N13l, H13, G13⟩ := (id V_oe_12)
  have hin13 : ¬ ((1 : Int32) < 0 ∨ cl13.slots.size ≤ ((1 : Int32)).toNatClampNeg) := inb_of S13 ⟨by decide, by decide⟩
  obtain ⟨T13, h13, X13, e13, W13, st13⟩ := stI X12 hx hZ e12 Ar13 (j := (1 : Int32)) hin13 (g := (mkF m 108 #[.val (.ref oa), .val (.ref ra), .val (.int vb), .val (.int vc), .val (.int ea)] [(.int (ea + vc)), (.int (1 : Int32)), (.ref oe)])) rfl rfl (hb hby own_dadd1_108)
  refine own_Fin.go st13 ?_
  have V_oe_13 := Arv.set Ar13 q13 S13 N13l H13 G13 rfl W13 1 rfl (Nat.le_of_ble_eq_true rfl)
  replace V_oe_13 : Arv Z h13 oe ke .int (16 : Int32) [(.int ea), (.int (ea + vc)), (.int ec), (.int (0 : Int32)), (.int (0 : Int32)), (.int (0 : Int32)), (.int (0 : Int32)), (.int (0 : Int32)), (.int (0 : Int32)), (.int (0 : Int32)), (.int (0 : Int32)), (.int (0 : Int32)), (.int (0 : Int32)), (.int (0 : Int32)), (.int (0 : Int32)), (.int (0 : Int32))] (.int (0 : Int32)) := V_oe_13
  have E_oa_13 := Exa.wr W13 E_oa_12
  have F_oa_bytes_13 := Fld.other W13 F_oa_bytes_12 (Or.inl ne_oa_oe)
  have F_oa_ends_13 := Fld.other W13 F_oa_ends_12 (Or.inl ne_oa_oe)
  have F_oa_count_13 := Fld.other W13 F_oa_count_12 (Or.inl ne_oa_oe)
  have V_ob_13 := Arv.other V_ob_12 W13 ne_ob_oe
  have V_ra_13 := Arv.other V_ra_12 W13 ne_ra_oe
  have Z13 := Nat.le_trans Z12 (Keep.of_wr W13).1
  have K13 := K12.wr W13 (Or.inl (List.mem_of_getElem? (i := 2) rfl))
  have N13 := Fr.snoc X13 N12 g_oe
  show own_Fin _ _ _ _ _ _ _ (T13.setTop (mkF m 109 #[.val (.ref oa), .val (.ref ra), .val (.int vb), .val (.int vc), .val (.int ea)] []))
  refine own_ret0 X13 hx Bd.returns (hb hby own_dadd1_109) Bd.notSynchronized (by decide) (by decide) ?_
  rw [e13]
  exact ⟨rfl, N13, K13, E_oa_13, F_oa_bytes_13, F_oa_ends_13, F_oa_count_13, V_ob_13, V_oe_13⟩
theorem own_dadd2_0 : decode prog_16_method_2_code 0 = .ok (.aload_n 0, 1) := by decide +kernel
theorem own_dadd2_1 : decode prog_16_method_2_code 1 = .ok (.aload_n 0, 1) := by decide +kernel
theorem own_dadd2_2 : decode prog_16_method_2_code 2 = .ok (.getfield 17, 3) := by decide +kernel
theorem own_dadd2_5 : decode prog_16_method_2_code 5 = .ok (.invokevirtual 21, 3) := by decide +kernel
theorem own_dadd2_8 : decode prog_16_method_2_code 8 = .ok (.istore 4, 2) := by decide +kernel
theorem own_dadd2_10 : decode prog_16_method_2_code 10 = .ok (.aload_n 0, 1) := by decide +kernel
theorem own_dadd2_11 : decode prog_16_method_2_code 11 = .ok (.getfield 9, 3) := by decide +kernel
theorem own_dadd2_14 : decode prog_16_method_2_code 14 = .ok (.arraylength, 1) := by decide +kernel
theorem own_dadd2_15 : decode prog_16_method_2_code 15 = .ok (.iload 4, 2) := by decide +kernel
theorem own_dadd2_17 : decode prog_16_method_2_code 17 = .ok (.isub, 1) := by decide +kernel
theorem own_dadd2_18 : decode prog_16_method_2_code 18 = .ok (.iload_n 3, 1) := by decide +kernel
theorem own_dadd2_19 : decode prog_16_method_2_code 19 = .ok (.if_icmp .ge 28, 3) := by decide +kernel
theorem own_dadd2_47 : decode prog_16_method_2_code 47 = .ok (.aload_n 0, 1) := by decide +kernel
theorem own_dadd2_48 : decode prog_16_method_2_code 48 = .ok (.getfield 17, 3) := by decide +kernel
theorem own_dadd2_51 : decode prog_16_method_2_code 51 = .ok (.aload_n 0, 1) := by decide +kernel
theorem own_dadd2_52 : decode prog_16_method_2_code 52 = .ok (.getfield 13, 3) := by decide +kernel
theorem own_dadd2_55 : decode prog_16_method_2_code 55 = .ok (.arraylength, 1) := by decide +kernel
theorem own_dadd2_56 : decode prog_16_method_2_code 56 = .ok (.if_icmp .ne 21, 3) := by decide +kernel
theorem own_dadd2_77 : decode prog_16_method_2_code 77 = .ok (.aload_n 1, 1) := by decide +kernel
theorem own_dadd2_78 : decode prog_16_method_2_code 78 = .ok (.iload_n 2, 1) := by decide +kernel
theorem own_dadd2_79 : decode prog_16_method_2_code 79 = .ok (.aload_n 0, 1) := by decide +kernel
theorem own_dadd2_80 : decode prog_16_method_2_code 80 = .ok (.getfield 9, 3) := by decide +kernel
theorem own_dadd2_83 : decode prog_16_method_2_code 83 = .ok (.iload 4, 2) := by decide +kernel
theorem own_dadd2_85 : decode prog_16_method_2_code 85 = .ok (.iload_n 3, 1) := by decide +kernel
theorem own_dadd2_86 : decode prog_16_method_2_code 86 = .ok (.invokestatic 40, 3) := by decide +kernel
theorem own_dadd2_89 : decode prog_16_method_2_code 89 = .ok (.aload_n 0, 1) := by decide +kernel
theorem own_dadd2_90 : decode prog_16_method_2_code 90 = .ok (.getfield 13, 3) := by decide +kernel
theorem own_dadd2_93 : decode prog_16_method_2_code 93 = .ok (.aload_n 0, 1) := by decide +kernel
theorem own_dadd2_94 : decode prog_16_method_2_code 94 = .ok (.dup, 1) := by decide +kernel
theorem own_dadd2_95 : decode prog_16_method_2_code 95 = .ok (.getfield 17, 3) := by decide +kernel
theorem own_dadd2_98 : decode prog_16_method_2_code 98 = .ok (.dup_x1, 1) := by decide +kernel
theorem own_dadd2_99 : decode prog_16_method_2_code 99 = .ok (.iconst 1, 1) := by decide +kernel
theorem own_dadd2_100 : decode prog_16_method_2_code 100 = .ok (.iadd, 1) := by decide +kernel
theorem own_dadd2_101 : decode prog_16_method_2_code 101 = .ok (.putfield 17, 3) := by decide +kernel
theorem own_dadd2_104 : decode prog_16_method_2_code 104 = .ok (.iload 4, 2) := by decide +kernel
theorem own_dadd2_106 : decode prog_16_method_2_code 106 = .ok (.iload_n 3, 1) := by decide +kernel
theorem own_dadd2_107 : decode prog_16_method_2_code 107 = .ok (.iadd, 1) := by decide +kernel
theorem own_dadd2_108 : decode prog_16_method_2_code 108 = .ok (.iastore, 1) := by decide +kernel
theorem own_dadd2_109 : decode prog_16_method_2_code 109 = .ok (.return_, 1) := by decide +kernel
theorem own_ef_add2 (m : MethodId) (oa : Addr) (ra : Addr) (vb : Int32) (vc : Int32) : entryFrame m #[(.ref oa), (.ref ra), (.int vb), (.int vc)] 5 = mkF m 0 #[.val (.ref oa), .val (.ref ra), .val (.int vb), .val (.int vc), .unset] [] := by first | (simp [entryFrame, mkF, argsToLocals, Value.category]; done) | rfl
def own_Q_add2 (Z : State) (oa : Addr) (ra : Addr) (vb : Int32) (vc : Int32) (ob : Addr) (kb : ClassId) (ks : ClassId) (LB : List Int32) (LS : List Int32) (oe : Addr) (ke : ClassId) (ea : Int32) (eb : Int32) (ec : Int32) (h0 : Heap) (n0 : Nat) (v : Option Value) (h : Heap) (L : List Loc) : Prop := v = none ∧ Fr n0 L ∧ Keep h0 h [oa, ob, oe] ∧ Exa Z h oa "com/example/wardkeeper/wardkeeper/hl7/Lines" ∧ Fld Z h oa "com/example/wardkeeper/wardkeeper/hl7/Lines" "bytes" "[B" (.ref ob) ∧ Fld Z h oa "com/example/wardkeeper/wardkeeper/hl7/Lines" "ends" "[I" (.ref oe) ∧ Fld Z h oa "com/example/wardkeeper/wardkeeper/hl7/Lines" "count" "I" (.int (3 : Int32)) ∧ Arv Z h ob kb .byte (1024 : Int32) ((own_cp LB LS eb vb vc).map Value.int) (.int (0 : Int32)) ∧ Arv Z h oe ke .int (16 : Int32) [(.int ea), (.int eb), (.int (eb + vc)), (.int (0 : Int32)), (.int (0 : Int32)), (.int (0 : Int32)), (.int (0 : Int32)), (.int (0 : Int32)), (.int (0 : Int32)), (.int (0 : Int32)), (.int (0 : Int32)), (.int (0 : Int32)), (.int (0 : Int32)), (.int (0 : Int32)), (.int (0 : Int32)), (.int (0 : Int32))] (.int (0 : Int32))
set_option maxRecDepth 65536 in
set_option maxHeartbeats 40000000 in
theorem own_rm_add2 (l : Launch) (Z : State) (a0 : Array Value) (hw : ∀ d ∈ tables_1, d.before a0 Z = true) (ws : List Jvm.Cond) (oa : Addr) (ra : Addr) (vb : Int32) (vc : Int32) (ob : Addr) (kb : ClassId) (ks : ClassId) (LB : List Int32) (LS : List Int32) (oe : Addr) (ke : ClassId) (ea : Int32) (eb : Int32) (ec : Int32) (h0 : Heap) (n0 : Nat) (Z0 : n0 ≤ h0.size) (E_oa : Exa Z h0 oa "com/example/wardkeeper/wardkeeper/hl7/Lines") (F_oa_bytes : Fld Z h0 oa "com/example/wardkeeper/wardkeeper/hl7/Lines" "bytes" "[B" (.ref ob)) (F_oa_ends : Fld Z h0 oa "com/example/wardkeeper/wardkeeper/hl7/Lines" "ends" "[I" (.ref oe)) (F_oa_count : Fld Z h0 oa "com/example/wardkeeper/wardkeeper/hl7/Lines" "count" "I" (.int (2 : Int32))) (V_ob : Arv Z h0 ob kb .byte (1024 : Int32) (LB.map Value.int) (.int (0 : Int32))) (V_oe : Arv Z h0 oe ke .int (16 : Int32) [(.int ea), (.int eb), (.int ec), (.int (0 : Int32)), (.int (0 : Int32)), (.int (0 : Int32)), (.int (0 : Int32)), (.int (0 : Int32)), (.int (0 : Int32)), (.int (0 : Int32)), (.int (0 : Int32)), (.int (0 : Int32)), (.int (0 : Int32)), (.int (0 : Int32)), (.int (0 : Int32)), (.int (0 : Int32))] (.int (0 : Int32))) (V_ra : Arv Z h0 ra ks .byte (8 : Int32) (LS.map Value.int) (.int (0 : Int32))) (g_oa : n0 ≤ oa) (g_ob : n0 ≤ ob) (g_oe : n0 ≤ oe) (ne_oa_ob : oa ≠ ob) (ne_oa_oe : oa ≠ oe) (ne_ob_oe : ob ≠ oe) (ne_ra_oa : ra ≠ oa) (ne_ra_ob : ra ≠ ob) (ne_ra_oe : ra ≠ oe) (hbd : own_bd vb vc) (hok : own_ok 100 eb) (hL : LB.length = 1024) :
    MetFree l (⟨"com/example/wardkeeper/wardkeeper/hl7/Lines", "add", "([BII)V"⟩ : MethodName) (head1 (Jvm.Cond.code (⟨"com/example/wardkeeper/wardkeeper/hl7/Lines", "add", "([BII)V"⟩ : MethodName) prog_16_method_2_code 5 none :: ws) ({ frames := 1, cells := 0, slots := 0, locals := 18 } : Room)) (fun a U => a = #[(.ref oa), (.ref ra), (.int vb), (.int vc)] ∧ Z.Warmed39 U.vm ∧ U.heap = h0) (fun _ _ _ _ _ => True) (fun _ U o U' => ∃ v L, o = .returned v ∧ own_Q_add2 Z oa ra vb vc ob kb ks LB LS oe ke ea eb ec h0 n0 v U'.heap L ∧ FrameEnd U o U' L ({ frames := 1, cells := 0, slots := 0, locals := 18 } : Room).cells ({ frames := 1, cells := 0, slots := 0, locals := 18 } : Room).slots) := by
  refine MetFree.of_bodySF (plainFor_of_name own_pn0) hisR ?_
  intro p e s m args below meth c s₁ Bd hml0 hP hK
  obtain ⟨rfl, hZ, hh⟩ := hP
  have hx := Bd.exec
  have hby := Bd.bytes
  have hml : c.maxLocals = 5 := hml0
  have hown : s.vm.findClass "com/example/wardkeeper/wardkeeper/hl7/Lines" = some m.cls := findClass_of_methodNamed Bd.named
  have hnm := (name_of_methodNamed Bd.named Bd.method).1
  have X0 : Stand p l e ({ frames := 1, cells := 0, slots := 0, locals := 18 } : Room) s m #[(.ref oa), (.ref ra), (.int vb), (.int vc)] below meth c s₁ [] 0 0 := Stand.of_body Bd
  have e0 : s₁.heap = h0 := by rw [← hh, Bd.state]; rfl
  have N0 := Fr.nil n0
  have K0 := Keep.refl h0 [oa, ob, oe]
  show own_Fin p e below s (own_Q_add2 Z oa ra vb vc ob kb ks LB LS oe ke ea eb ec h0 n0) ({ frames := 1, cells := 0, slots := 0, locals := 18 } : Room).cells ({ frames := 1, cells := 0, slots := 0, locals := 18 } : Room).slots (s₁.setTop (entryFrame m #[(.ref oa), (.ref ra), (.int vb), (.int vc)] 5))
  refine own_Fin.go (fun t k => castTop (own_ef_add2 m oa ra vb vc) k) ?_
  refine own_Fin.go (fun t k => XS.aloadN X0.here hx rfl (hb hby own_dadd2_0) rfl rfl k) ?_
  show own_Fin _ _ _ _ _ _ _ (s₁.setTop (mkF m 1 #[.val (.ref oa), .val (.ref ra), .val (.int vb), .val (.int vc), .unset] [(.ref oa)]))
  refine own_Fin.go (fun t k => XS.aloadN X0.here hx rfl (hb hby own_dadd2_1) rfl rfl k) ?_
  show own_Fin _ _ _ _ _ _ _ (s₁.setTop (mkF m 2 #[.val (.ref oa), .val (.ref ra), .val (.int vb), .val (.int vc), .unset] [(.ref oa), (.ref oa)]))
  obtain ⟨T1, X1, e1, st1⟩ := getF X0 hx hZ hown (host := "") (Or.inl (hw _ (List.mem_of_getElem? (i := 20) rfl))) Via.refl e0 F_oa_count (g := (mkF m 2 #[.val (.ref oa), .val (.ref ra), .val (.int vb), .val (.int vc), .unset] [(.ref oa), (.ref oa)])) rfl rfl (hb hby own_dadd2_2)
  refine own_Fin.go st1 ?_
  show own_Fin _ _ _ _ _ _ _ (T1.setTop (mkF m 5 #[.val (.ref oa), .val (.ref ra), .val (.int vb), .val (.int vc), .unset] [(.int (2 : Int32)), (.ref oa)]))
  obtain ⟨cq2, q2, q2'⟩ := E_oa.cell
  obtain ⟨_, _, ⟨T2, L2, k2, n2⟩, -, X2, ⟨Lc2, hQ2, l2, y2, z2⟩, st2⟩ := X1.privateBack hx (y := (⟨"com/example/wardkeeper/wardkeeper/hl7/Lines", "start", "(I)I"⟩ : MethodName)) hown (mvT hZ (hw _ (List.mem_of_getElem? (i := 27) rfl))) (mvT hZ (hw _ (List.mem_of_getElem? (i := 28) rfl))) (own_selp (y := (⟨"com/example/wardkeeper/wardkeeper/hl7/Lines", "start", "(I)I"⟩ : MethodName)) (mvT hZ (hw _ (List.mem_of_getElem? (i := 18) rfl)) (args := #[])) rfl (Cond.privateMethod_at (mvP hZ (hw _ (List.mem_of_getElem? (i := 29) rfl)) (args := #[]))) (mvT hZ (hw _ (List.mem_of_getElem? (i := 28) rfl)) (args := #[])) (by decide)) (Cond.privateMethod_at (mvP hZ (hw _ (List.mem_of_getElem? (i := 29) rfl)) (args := #[]))) (mvT hZ (hw _ (List.mem_of_getElem? (i := 30) rfl))) (by decide) (backOf (W := 0) (own_rm_st2 l Z a0 hw [] oa oe ke ea eb ec h0 n0 Z0 F_oa_ends V_oe) hZ (hw _ (List.mem_of_getElem? (i := 30) rfl)) (hw _ (List.mem_of_getElem? (i := 3) rfl)) (by decide) (by decide)) (g := (mkF m 5 #[.val (.ref oa), .val (.ref ra), .val (.int vb), .val (.int vc), .unset] [(.int (2 : Int32)), (.ref oa)])) rfl (by rw [hml]; rfl) (Steps.refl _) (a := oa) (by rw [e1]; exact q2) q2' (argsL := [(.int (2 : Int32))]) (rest := []) (lenOf own_pd0 rfl) rfl (by show 2 * 0 + _ ≤ _; exact Nat.le_of_eq rfl) (hb hby own_dadd2_5) (fun _ _ => ⟨rfl, e1, (by decide : 0 + 0 ≤ _), (by decide : 0 + 0 ≤ _)⟩)
  dsimp only [Pt.U, Pt.locs, Pt.cells, Pt.slots] at X2 l2 y2 z2 st2 hQ2
  subst l2 y2 z2
  obtain ⟨rfl, N2q, e2⟩ := hQ2
  refine own_Fin.go (fun t k => st2.trans k) ?_
  have N2 := Fr.app N0 N2q
  show own_Fin _ _ _ _ _ _ _ (T2.setTop (mkF m 8 #[.val (.ref oa), .val (.ref ra), .val (.int vb), .val (.int vc), .unset] [(.int eb)]))
  refine own_Fin.go (fun t k => XS.istore X2.here hx rfl (hb hby own_dadd2_8) rfl (l' := #[.val (.ref oa), .val (.ref ra), .val (.int vb), .val (.int vc), .val (.int eb)]) rfl k) ?_
  show own_Fin _ _ _ _ _ _ _ (T2.setTop (mkF m 10 #[.val (.ref oa), .val (.ref ra), .val (.int vb), .val (.int vc), .val (.int eb)] []))
  refine own_Fin.go (fun t k => XS.aloadN X2.here hx rfl (hb hby own_dadd2_10) rfl rfl k) ?_
  show own_Fin _ _ _ _ _ _ _ (T2.setTop (mkF m 11 #[.val (.ref oa), .val (.ref ra), .val (.int vb), .val (.int vc), .val (.int eb)] [(.ref oa)]))
  obtain ⟨T3, X3, e3, st3⟩ := getF X2 hx hZ hown (host := "") (Or.inl (hw _ (List.mem_of_getElem? (i := 10) rfl))) Via.refl e2 F_oa_bytes (g := (mkF m 11 #[.val (.ref oa), .val (.ref ra), .val (.int vb), .val (.int vc), .val (.int eb)] [(.ref oa)])) rfl rfl (hb hby own_dadd2_11)
  refine own_Fin.go st3 ?_
  show own_Fin _ _ _ _ _ _ _ (T3.setTop (mkF m 14 #[.val (.ref oa), .val (.ref ra), .val (.int vb), .val (.int vc), .val (.int eb)] [(.ref ob)]))
  obtain ⟨cl4, Ar4, -, S4, N4l, -, -⟩ := (id V_ob)
  refine own_Fin.go (fun t k => X3.arraylength hx (by rw [e3]; exact Ar4.1) (State.isArrayOf_alike hZ.alike Ar4.2.1) (g := (mkF m 14 #[.val (.ref oa), .val (.ref ra), .val (.int vb), .val (.int vc), .val (.int eb)] [(.ref ob)])) rfl rfl (hb hby own_dadd2_14) t k) ?_
  rw [len_of S4 N4l]
  show own_Fin _ _ _ _ _ _ _ (T3.setTop (mkF m 15 #[.val (.ref oa), .val (.ref ra), .val (.int vb), .val (.int vc), .val (.int eb)] [(.int (1024 : Int32))]))
  refine own_Fin.go (fun t k => XS.iload X3.here hx rfl (hb hby own_dadd2_15) rfl k) ?_
  show own_Fin _ _ _ _ _ _ _ (T3.setTop (mkF m 17 #[.val (.ref oa), .val (.ref ra), .val (.int vb), .val (.int vc), .val (.int eb)] [(.int eb), (.int (1024 : Int32))]))
  refine own_Fin.go (fun t k => XS.isub X3.here hx rfl (hb hby own_dadd2_17) rfl k) ?_
  show own_Fin _ _ _ _ _ _ _ (T3.setTop (mkF m 18 #[.val (.ref oa), .val (.ref ra), .val (.int vb), .val (.int vc), .val (.int eb)] [(.int ((1024 : Int32) - eb))]))
  refine own_Fin.go (fun t k => XS.iloadN X3.here hx rfl (hb hby own_dadd2_18) rfl k) ?_
  show own_Fin _ _ _ _ _ _ _ (T3.setTop (mkF m 19 #[.val (.ref oa), .val (.ref ra), .val (.int vb), .val (.int vc), .val (.int eb)] [(.int vc), (.int ((1024 : Int32) - eb))]))
  have hc19 : ¬ (((1024 : Int32) - eb) < vc) := own_room hok hbd
  refine own_Fin.go (fun t k => XS.icmpYes X3.here hx rfl (pc0 := 19) (pc' := 47) rfl (hb hby own_dadd2_19) rfl (Jvm.Free.XT.ii_ge_t hc19) (by decide) (by decide) k) ?_
  show own_Fin _ _ _ _ _ _ _ (T3.setTop (mkF m 47 #[.val (.ref oa), .val (.ref ra), .val (.int vb), .val (.int vc), .val (.int eb)] []))
  refine own_Fin.go (fun t k => XS.aloadN X3.here hx rfl (hb hby own_dadd2_47) rfl rfl k) ?_
  show own_Fin _ _ _ _ _ _ _ (T3.setTop (mkF m 48 #[.val (.ref oa), .val (.ref ra), .val (.int vb), .val (.int vc), .val (.int eb)] [(.ref oa)]))
  obtain ⟨T5, X5, e5, st5⟩ := getF X3 hx hZ hown (host := "") (Or.inl (hw _ (List.mem_of_getElem? (i := 20) rfl))) Via.refl e3 F_oa_count (g := (mkF m 48 #[.val (.ref oa), .val (.ref ra), .val (.int vb), .val (.int vc), .val (.int eb)] [(.ref oa)])) rfl rfl (hb hby own_dadd2_48)
  refine own_Fin.go st5 ?_
  show own_Fin _ _ _ _ _ _ _ (T5.setTop (mkF m 51 #[.val (.ref oa), .val (.ref ra), .val (.int vb), .val (.int vc), .val (.int eb)] [(.int (2 : Int32))]))
  refine own_Fin.go (fun t k => XS.aloadN X5.here hx rfl (hb hby own_dadd2_51) rfl rfl k) ?_
  show own_Fin _ _ _ _ _ _ _ (T5.setTop (mkF m 52 #[.val (.ref oa), .val (.ref ra), .val (.int vb), .val (.int vc), .val (.int eb)] [(.ref oa), (.int (2 : Int32))]))
  obtain ⟨T6, X6, e6, st6⟩ := getF X5 hx hZ hown (host := "") (Or.inl (hw _ (List.mem_of_getElem? (i := 13) rfl))) Via.refl e5 F_oa_ends (g := (mkF m 52 #[.val (.ref oa), .val (.ref ra), .val (.int vb), .val (.int vc), .val (.int eb)] [(.ref oa), (.int (2 : Int32))])) rfl rfl (hb hby own_dadd2_52)
  refine own_Fin.go st6 ?_
  show own_Fin _ _ _ _ _ _ _ (T6.setTop (mkF m 55 #[.val (.ref oa), .val (.ref ra), .val (.int vb), .val (.int vc), .val (.int eb)] [(.ref oe), (.int (2 : Int32))]))
  obtain ⟨cl7, Ar7, -, S7, N7l, -, -⟩ := (id V_oe)
  refine own_Fin.go (fun t k => X6.arraylength hx (by rw [e6]; exact Ar7.1) (State.isArrayOf_alike hZ.alike Ar7.2.1) (g := (mkF m 55 #[.val (.ref oa), .val (.ref ra), .val (.int vb), .val (.int vc), .val (.int eb)] [(.ref oe), (.int (2 : Int32))])) rfl rfl (hb hby own_dadd2_55) t k) ?_
  rw [len_of S7 N7l]
  show own_Fin _ _ _ _ _ _ _ (T6.setTop (mkF m 56 #[.val (.ref oa), .val (.ref ra), .val (.int vb), .val (.int vc), .val (.int eb)] [(.int (16 : Int32)), (.int (2 : Int32))]))
  refine own_Fin.go (fun t k => XS.icmpYes X6.here hx rfl (pc0 := 56) (pc' := 77) rfl (hb hby own_dadd2_56) rfl (by decide) (by decide) (by decide) k) ?_
  show own_Fin _ _ _ _ _ _ _ (T6.setTop (mkF m 77 #[.val (.ref oa), .val (.ref ra), .val (.int vb), .val (.int vc), .val (.int eb)] []))
  refine own_Fin.go (fun t k => XS.aloadN X6.here hx rfl (hb hby own_dadd2_77) rfl rfl k) ?_
  show own_Fin _ _ _ _ _ _ _ (T6.setTop (mkF m 78 #[.val (.ref oa), .val (.ref ra), .val (.int vb), .val (.int vc), .val (.int eb)] [(.ref ra)]))
  refine own_Fin.go (fun t k => XS.iloadN X6.here hx rfl (hb hby own_dadd2_78) rfl k) ?_
  show own_Fin _ _ _ _ _ _ _ (T6.setTop (mkF m 79 #[.val (.ref oa), .val (.ref ra), .val (.int vb), .val (.int vc), .val (.int eb)] [(.int vb), (.ref ra)]))
  refine own_Fin.go (fun t k => XS.aloadN X6.here hx rfl (hb hby own_dadd2_79) rfl rfl k) ?_
  show own_Fin _ _ _ _ _ _ _ (T6.setTop (mkF m 80 #[.val (.ref oa), .val (.ref ra), .val (.int vb), .val (.int vc), .val (.int eb)] [(.ref oa), (.int vb), (.ref ra)]))
  obtain ⟨T8, X8, e8, st8⟩ := getF X6 hx hZ hown (host := "") (Or.inl (hw _ (List.mem_of_getElem? (i := 10) rfl))) Via.refl e6 F_oa_bytes (g := (mkF m 80 #[.val (.ref oa), .val (.ref ra), .val (.int vb), .val (.int vc), .val (.int eb)] [(.ref oa), (.int vb), (.ref ra)])) rfl rfl (hb hby own_dadd2_80)
  refine own_Fin.go st8 ?_
  show own_Fin _ _ _ _ _ _ _ (T8.setTop (mkF m 83 #[.val (.ref oa), .val (.ref ra), .val (.int vb), .val (.int vc), .val (.int eb)] [(.ref ob), (.int vb), (.ref ra)]))
  refine own_Fin.go (fun t k => XS.iload X8.here hx rfl (hb hby own_dadd2_83) rfl k) ?_
  show own_Fin _ _ _ _ _ _ _ (T8.setTop (mkF m 85 #[.val (.ref oa), .val (.ref ra), .val (.int vb), .val (.int vc), .val (.int eb)] [(.int eb), (.ref ob), (.int vb), (.ref ra)]))
  refine own_Fin.go (fun t k => XS.iloadN X8.here hx rfl (hb hby own_dadd2_85) rfl k) ?_
  show own_Fin _ _ _ _ _ _ _ (T8.setTop (mkF m 86 #[.val (.ref oa), .val (.ref ra), .val (.int vb), .val (.int vc), .val (.int eb)] [(.int vc), (.int eb), (.ref ob), (.int vb), (.ref ra)]))
  obtain ⟨T9, h9, L9, X9, e9, N9, K9q, V9c, st9⟩ := cpA X8 hx hZ hown (hw _ (List.mem_of_getElem? (i := 31) rfl)) (hw _ (List.mem_of_getElem? (i := 34) rfl)) (hw _ (List.mem_of_getElem? (i := 32) rfl)) (hw _ (List.mem_of_getElem? (i := 33) rfl)) e8 V_ra V_ob (us := ((own_sl LS vb vc).map Value.int)) (Or.inl ⟨rfl, rfl⟩) hbd.1 hok.1 hbd.2.1 (own_c8 hbd) (own_c1024 hok hbd) (own_hus LS vb vc) (by rw [List.length_map, hL]; exact own_c1024 hok hbd) N2 g_ob (g := (mkF m 86 #[.val (.ref oa), .val (.ref ra), .val (.int vb), .val (.int vc), .val (.int eb)] [(.int vc), (.int eb), (.ref ob), (.int vb), (.ref ra)])) rfl (by rw [hml]; rfl) rfl (hb hby own_dadd2_86) (by decide) (W := 0) (by show 2 * 0 + _ ≤ _; exact Nat.le_of_eq rfl) (by decide)
  refine own_Fin.go st9 ?_
  have V_ob_9 : Arv Z h9 ob kb .byte (1024 : Int32) ((own_cp LB LS eb vb vc).map Value.int) (.int (0 : Int32)) := (by have q := V9c; rw [own_cpMap] at q; exact q)
  have E_oa_9 := E_oa.keep K9q
  have F_oa_bytes_9 := F_oa_bytes.keep K9q (ninS ne_oa_ob nin0)
  have F_oa_ends_9 := F_oa_ends.keep K9q (ninS ne_oa_ob nin0)
  have F_oa_count_9 := F_oa_count.keep K9q (ninS ne_oa_ob nin0)
  have V_oe_9 := V_oe.keep K9q (ninS (Ne.symm ne_ob_oe) nin0)
  have V_ra_9 := V_ra.keep K9q (ninS ne_ra_ob nin0)
  have Z9 := Nat.le_trans Z0 K9q.1
  have K9 := K0.trans K9q (allS (Or.inl (List.mem_of_getElem? (i := 1) rfl)) all0)
  show own_Fin _ _ _ _ _ _ _ (T9.setTop (mkF m 89 #[.val (.ref oa), .val (.ref ra), .val (.int vb), .val (.int vc), .val (.int eb)] []))
  refine own_Fin.go (fun t k => XS.aloadN X9.here hx rfl (hb hby own_dadd2_89) rfl rfl k) ?_
  show own_Fin _ _ _ _ _ _ _ (T9.setTop (mkF m 90 #[.val (.ref oa), .val (.ref ra), .val (.int vb), .val (.int vc), .val (.int eb)] [(.ref oa)]))
  obtain ⟨T10, X10, e10, st10⟩ := getF X9 hx hZ hown (host := "") (Or.inl (hw _ (List.mem_of_getElem? (i := 13) rfl))) Via.refl e9 F_oa_ends_9 (g := (mkF m 90 #[.val (.ref oa), .val (.ref ra), .val (.int vb), .val (.int vc), .val (.int eb)] [(.ref oa)])) rfl rfl (hb hby own_dadd2_90)
  refine own_Fin.go st10 ?_
  show own_Fin _ _ _ _ _ _ _ (T10.setTop (mkF m 93 #[.val (.ref oa), .val (.ref ra), .val (.int vb), .val (.int vc), .val (.int eb)] [(.ref oe)]))
  refine own_Fin.go (fun t k => XS.aloadN X10.here hx rfl (hb hby own_dadd2_93) rfl rfl k) ?_
  show own_Fin _ _ _ _ _ _ _ (T10.setTop (mkF m 94 #[.val (.ref oa), .val (.ref ra), .val (.int vb), .val (.int vc), .val (.int eb)] [(.ref oa), (.ref oe)]))
  refine own_Fin.go (fun t k => XS.dup X10.here hx rfl (hb hby own_dadd2_94) rfl rfl k) ?_
  show own_Fin _ _ _ _ _ _ _ (T10.setTop (mkF m 95 #[.val (.ref oa), .val (.ref ra), .val (.int vb), .val (.int vc), .val (.int eb)] [(.ref oa), (.ref oa), (.ref oe)]))
  obtain ⟨T11, X11, e11, st11⟩ := getF X10 hx hZ hown (host := "") (Or.inl (hw _ (List.mem_of_getElem? (i := 20) rfl))) Via.refl e10 F_oa_count_9 (g := (mkF m 95 #[.val (.ref oa), .val (.ref ra), .val (.int vb), .val (.int vc), .val (.int eb)] [(.ref oa), (.ref oa), (.ref oe)])) rfl rfl (hb hby own_dadd2_95)
  refine own_Fin.go st11 ?_
  show own_Fin _ _ _ _ _ _ _ (T11.setTop (mkF m 98 #[.val (.ref oa), .val (.ref ra), .val (.int vb), .val (.int vc), .val (.int eb)] [(.int (2 : Int32)), (.ref oa), (.ref oe)]))
  refine own_Fin.go (fun t k => XS.dupX1 X11.here hx rfl (hb hby own_dadd2_98) rfl rfl rfl k) ?_
  show own_Fin _ _ _ _ _ _ _ (T11.setTop (mkF m 99 #[.val (.ref oa), .val (.ref ra), .val (.int vb), .val (.int vc), .val (.int eb)] [(.int (2 : Int32)), (.ref oa), (.int (2 : Int32)), (.ref oe)]))
  refine own_Fin.go (fun t k => XS.iconst X11.here hx rfl (hb hby own_dadd2_99) k) ?_
  show own_Fin _ _ _ _ _ _ _ (T11.setTop (mkF m 100 #[.val (.ref oa), .val (.ref ra), .val (.int vb), .val (.int vc), .val (.int eb)] [(.int (1 : Int32)), (.int (2 : Int32)), (.ref oa), (.int (2 : Int32)), (.ref oe)]))
  refine own_Fin.go (fun t k => XS.iadd X11.here hx rfl (hb hby own_dadd2_100) rfl k) ?_
  show own_Fin _ _ _ _ _ _ _ (T11.setTop (mkF m 101 #[.val (.ref oa), .val (.ref ra), .val (.int vb), .val (.int vc), .val (.int eb)] [(.int ((2 : Int32) + (1 : Int32))), (.ref oa), (.int (2 : Int32)), (.ref oe)]))
  rw [show ((2 : Int32) + (1 : Int32)) = (3 : Int32) from by decide +kernel]
  show own_Fin _ _ _ _ _ _ _ (T11.setTop (mkF m 101 #[.val (.ref oa), .val (.ref ra), .val (.int vb), .val (.int vc), .val (.int eb)] [(.int (3 : Int32)), (.ref oa), (.int (2 : Int32)), (.ref oe)]))
  obtain ⟨T12, h12, X12, e12, W12, st12⟩ := putF X11 hx hZ hown (host := "") (Or.inl (hw _ (List.mem_of_getElem? (i := 20) rfl))) Via.refl e11 F_oa_count_9 E_oa_9 (Or.inl (hw _ (List.mem_of_getElem? (i := 21) rfl))) (hw _ (List.mem_of_getElem? (i := 2) rfl)) (ty := .int) (by decide) rfl rfl (g := (mkF m 101 #[.val (.ref oa), .val (.ref ra), .val (.int vb), .val (.int vc), .val (.int eb)] [(.int (3 : Int32)), (.ref oa), (.int (2 : Int32)), (.ref oe)])) rfl rfl (hb hby own_dadd2_101)
  refine own_Fin.go st12 ?_
  have F_oa_count_12 := Fld.same W12 F_oa_count_9
  have E_oa_12 := Exa.wr W12 E_oa_9
  have F_oa_bytes_12 := Fld.other W12 F_oa_bytes_9 (Or.inr (slot_ne (Or.inl (hw _ (List.mem_of_getElem? (i := 11) rfl))) (Or.inl (hw _ (List.mem_of_getElem? (i := 21) rfl))) (by decide) (t := (.array .byte)) (t' := .int) (by decide) (by decide)))
  have F_oa_ends_12 := Fld.other W12 F_oa_ends_9 (Or.inr (slot_ne (Or.inl (hw _ (List.mem_of_getElem? (i := 14) rfl))) (Or.inl (hw _ (List.mem_of_getElem? (i := 21) rfl))) (by decide) (t := (.array .int)) (t' := .int) (by decide) (by decide)))
  have V_ob_12 := Arv.other V_ob_9 W12 (Ne.symm ne_oa_ob)
  have V_oe_12 := Arv.other V_oe_9 W12 (Ne.symm ne_oa_oe)
  have V_ra_12 := Arv.other V_ra_9 W12 ne_ra_oa
  have Z12 := Nat.le_trans Z9 (Keep.of_wr W12).1
  have K12 := K9.wr W12 (Or.inl (List.mem_of_getElem? (i := 0) rfl))
  have N12 := Fr.snoc X12 N9 g_oa
  show own_Fin _ _ _ _ _ _ _ (T12.setTop (mkF m 104 #[.val (.ref oa), .val (.ref ra), .val (.int vb), .val (.int vc), .val (.int eb)] [(.int (2 : Int32)), (.ref oe)]))
  refine own_Fin.go (fun t k => XS.iload X12.here hx rfl (hb hby own_dadd2_104) rfl k) ?_
  show own_Fin _ _ _ _ _ _ _ (T12.setTop (mkF m 106 #[.val (.ref oa), .val (.ref ra), .val (.int vb), .val (.int vc), .val (.int eb)] [(.int eb), (.int (2 : Int32)), (.ref oe)]))
  refine own_Fin.go (fun t k => XS.iloadN X12.here hx rfl (hb hby own_dadd2_106) rfl k) ?_
  show own_Fin _ _ _ _ _ _ _ (T12.setTop (mkF m 107 #[.val (.ref oa), .val (.ref ra), .val (.int vb), .val (.int vc), .val (.int eb)] [(.int vc), (.int eb), (.int (2 : Int32)), (.ref oe)]))
  refine own_Fin.go (fun t k => XS.iadd X12.here hx rfl (hb hby own_dadd2_107) rfl k) ?_
  show own_Fin _ _ _ _ _ _ _ (T12.setTop (mkF m 108 #[.val (.ref oa), .val (.ref ra), .val (.int vb), .val (.int vc), .val (.int eb)] [(.int (eb + vc)), (.int (2 : Int32)), (.ref oe)]))
  obtain ⟨cl13, Ar13, q13, S13, N13l, H13, G13⟩ := (id V_oe_12)
  have hin13 : ¬ ((2 : Int32) < 0 ∨ cl13.slots.size ≤ ((2 : Int32)).toNatClampNeg) := inb_of S13 ⟨by decide, by decide⟩
  obtain ⟨T13, h13, X13, e13, W13, st13⟩ := stI X12 hx hZ e12 Ar13 (j := (2 : Int32)) hin13 (g := (mkF m 108 #[.val (.ref oa), .val (.ref ra), .val (.int vb), .val (.int vc), .val (.int eb)] [(.int (eb + vc)), (.int (2 : Int32)), (.ref oe)])) rfl rfl (hb hby own_dadd2_108)
  refine own_Fin.go st13 ?_
  have V_oe_13 := Arv.set Ar13 q13 S13 N13l H13 G13 rfl W13 2 rfl (Nat.le_of_ble_eq_true rfl)
  replace V_oe_13 : Arv Z h13 oe ke .int (16 : Int32) [(.int ea), (.int eb), (.int (eb + vc)), (.int (0 : Int32)), (.int (0 : Int32)), (.int (0 : Int32)), (.int (0 : Int32)), (.int (0 : Int32)), (.int (0 : Int32)), (.int (0 : Int32)), (.int (0 : Int32)), (.int (0 : Int32)), (.int (0 : Int32)), (.int (0 : Int32)), (.int (0 : Int32)), (.int (0 : Int32))] (.int (0 : Int32)) := V_oe_13
  have E_oa_13 := Exa.wr W13 E_oa_12
  have F_oa_bytes_13 := Fld.other W13 F_oa_bytes_12 (Or.inl ne_oa_oe)
  have F_oa_ends_13 := Fld.other W13 F_oa_ends_12 (Or.inl ne_oa_oe)
  have F_oa_count_13 := Fld.other W13 F_oa_count_12 (Or.inl ne_oa_oe)
  have V_ob_13 := Arv.other V_ob_12 W13 ne_ob_oe
  have V_ra_13 := Arv.other V_ra_12 W13 ne_ra_oe
  have Z13 := Nat.le_trans Z12 (Keep.of_wr W13).1
  have K13 := K12.wr W13 (Or.inl (List.mem_of_getElem? (i := 2) rfl))
  have N13 := Fr.snoc X13 N12 g_oe
  show own_Fin _ _ _ _ _ _ _ (T13.setTop (mkF m 109 #[.val (.ref oa), .val (.ref ra), .val (.int vb), .val (.int vc), .val (.int eb)] []))
  refine own_ret0 X13 hx Bd.returns (hb hby own_dadd2_109) Bd.notSynchronized (by decide) (by decide) ?_
  rw [e13]
  exact ⟨rfl, N13, K13, E_oa_13, F_oa_bytes_13, F_oa_ends_13, F_oa_count_13, V_ob_13, V_oe_13⟩
theorem own_dbc1_0 : decode prog_16_method_5_code 0 = .ok (.aload_n 0, 1) := by decide +kernel
theorem own_dbc1_1 : decode prog_16_method_5_code 1 = .ok (.aload_n 0, 1) := by decide +kernel
theorem own_dbc1_2 : decode prog_16_method_5_code 2 = .ok (.getfield 17, 3) := by decide +kernel
theorem own_dbc1_5 : decode prog_16_method_5_code 5 = .ok (.invokevirtual 21, 3) := by decide +kernel
theorem own_dbc1_8 : decode prog_16_method_5_code 8 = .ok (.ireturn, 1) := by decide +kernel
theorem own_ef_bc1 (m : MethodId) (oa : Addr) : entryFrame m #[(.ref oa)] 1 = mkF m 0 #[.val (.ref oa)] [] := by first | (simp [entryFrame, mkF, argsToLocals, Value.category]; done) | rfl
def own_Q_bc1 (Z : State) (oa : Addr) (oe : Addr) (ke : ClassId) (ea : Int32) (eb : Int32) (ec : Int32) (h0 : Heap) (n0 : Nat) (v : Option Value) (h : Heap) (L : List Loc) : Prop := v = some (.int ea) ∧ Fr n0 L ∧ h = h0
set_option maxRecDepth 65536 in
set_option maxHeartbeats 40000000 in
theorem own_rm_bc1 (l : Launch) (Z : State) (a0 : Array Value) (hw : ∀ d ∈ tables_1, d.before a0 Z = true) (ws : List Jvm.Cond) (oa : Addr) (oe : Addr) (ke : ClassId) (ea : Int32) (eb : Int32) (ec : Int32) (h0 : Heap) (n0 : Nat) (Z0 : n0 ≤ h0.size) (E_oa : Exa Z h0 oa "com/example/wardkeeper/wardkeeper/hl7/Lines") (F_oa_ends : Fld Z h0 oa "com/example/wardkeeper/wardkeeper/hl7/Lines" "ends" "[I" (.ref oe)) (F_oa_count : Fld Z h0 oa "com/example/wardkeeper/wardkeeper/hl7/Lines" "count" "I" (.int (1 : Int32))) (V_oe : Arv Z h0 oe ke .int (16 : Int32) [(.int ea), (.int eb), (.int ec), (.int (0 : Int32)), (.int (0 : Int32)), (.int (0 : Int32)), (.int (0 : Int32)), (.int (0 : Int32)), (.int (0 : Int32)), (.int (0 : Int32)), (.int (0 : Int32)), (.int (0 : Int32)), (.int (0 : Int32)), (.int (0 : Int32)), (.int (0 : Int32)), (.int (0 : Int32))] (.int (0 : Int32))) :
    MetFree l (⟨"com/example/wardkeeper/wardkeeper/hl7/Lines", "byteCount", "()I"⟩ : MethodName) (head1 (Jvm.Cond.code (⟨"com/example/wardkeeper/wardkeeper/hl7/Lines", "byteCount", "()I"⟩ : MethodName) prog_16_method_5_code 1 (some .int) :: ws) ({ frames := 1, cells := 0, slots := 0, locals := 13 } : Room)) (fun a U => a = #[(.ref oa)] ∧ Z.Warmed39 U.vm ∧ U.heap = h0) (fun _ _ _ _ _ => True) (fun _ U o U' => ∃ v L, o = .returned v ∧ own_Q_bc1 Z oa oe ke ea eb ec h0 n0 v U'.heap L ∧ FrameEnd U o U' L ({ frames := 1, cells := 0, slots := 0, locals := 13 } : Room).cells ({ frames := 1, cells := 0, slots := 0, locals := 13 } : Room).slots) := by
  refine MetFree.of_bodySF (plainFor_of_name own_pn0) hisR ?_
  intro p e s m args below meth c s₁ Bd hml0 hP hK
  obtain ⟨rfl, hZ, hh⟩ := hP
  have hx := Bd.exec
  have hby := Bd.bytes
  have hml : c.maxLocals = 1 := hml0
  have hown : s.vm.findClass "com/example/wardkeeper/wardkeeper/hl7/Lines" = some m.cls := findClass_of_methodNamed Bd.named
  have hnm := (name_of_methodNamed Bd.named Bd.method).1
  have X0 : Stand p l e ({ frames := 1, cells := 0, slots := 0, locals := 13 } : Room) s m #[(.ref oa)] below meth c s₁ [] 0 0 := Stand.of_body Bd
  have e0 : s₁.heap = h0 := by rw [← hh, Bd.state]; rfl
  have N0 := Fr.nil n0
  show own_Fin p e below s (own_Q_bc1 Z oa oe ke ea eb ec h0 n0) ({ frames := 1, cells := 0, slots := 0, locals := 13 } : Room).cells ({ frames := 1, cells := 0, slots := 0, locals := 13 } : Room).slots (s₁.setTop (entryFrame m #[(.ref oa)] 1))
  refine own_Fin.go (fun t k => castTop (own_ef_bc1 m oa) k) ?_
  refine own_Fin.go (fun t k => XS.aloadN X0.here hx rfl (hb hby own_dbc1_0) rfl rfl k) ?_
  show own_Fin _ _ _ _ _ _ _ (s₁.setTop (mkF m 1 #[.val (.ref oa)] [(.ref oa)]))
  refine own_Fin.go (fun t k => XS.aloadN X0.here hx rfl (hb hby own_dbc1_1) rfl rfl k) ?_
  show own_Fin _ _ _ _ _ _ _ (s₁.setTop (mkF m 2 #[.val (.ref oa)] [(.ref oa), (.ref oa)]))
  obtain ⟨T1, X1, e1, st1⟩ := getF X0 hx hZ hown (host := "") (Or.inl (hw _ (List.mem_of_getElem? (i := 20) rfl))) Via.refl e0 F_oa_count (g := (mkF m 2 #[.val (.ref oa)] [(.ref oa), (.ref oa)])) rfl rfl (hb hby own_dbc1_2)
  refine own_Fin.go st1 ?_
  show own_Fin _ _ _ _ _ _ _ (T1.setTop (mkF m 5 #[.val (.ref oa)] [(.int (1 : Int32)), (.ref oa)]))
  obtain ⟨cq2, q2, q2'⟩ := E_oa.cell
  obtain ⟨_, _, ⟨T2, L2, k2, n2⟩, -, X2, ⟨Lc2, hQ2, l2, y2, z2⟩, st2⟩ := X1.privateBack hx (y := (⟨"com/example/wardkeeper/wardkeeper/hl7/Lines", "start", "(I)I"⟩ : MethodName)) hown (mvT hZ (hw _ (List.mem_of_getElem? (i := 27) rfl))) (mvT hZ (hw _ (List.mem_of_getElem? (i := 28) rfl))) (own_selp (y := (⟨"com/example/wardkeeper/wardkeeper/hl7/Lines", "start", "(I)I"⟩ : MethodName)) (mvT hZ (hw _ (List.mem_of_getElem? (i := 18) rfl)) (args := #[])) rfl (Cond.privateMethod_at (mvP hZ (hw _ (List.mem_of_getElem? (i := 29) rfl)) (args := #[]))) (mvT hZ (hw _ (List.mem_of_getElem? (i := 28) rfl)) (args := #[])) (by decide)) (Cond.privateMethod_at (mvP hZ (hw _ (List.mem_of_getElem? (i := 29) rfl)) (args := #[]))) (mvT hZ (hw _ (List.mem_of_getElem? (i := 30) rfl))) (by decide) (backOf (W := 0) (own_rm_st1 l Z a0 hw [] oa oe ke ea eb ec h0 n0 Z0 F_oa_ends V_oe) hZ (hw _ (List.mem_of_getElem? (i := 30) rfl)) (hw _ (List.mem_of_getElem? (i := 3) rfl)) (by decide) (by decide)) (g := (mkF m 5 #[.val (.ref oa)] [(.int (1 : Int32)), (.ref oa)])) rfl (by rw [hml]; rfl) (Steps.refl _) (a := oa) (by rw [e1]; exact q2) q2' (argsL := [(.int (1 : Int32))]) (rest := []) (lenOf own_pd0 rfl) rfl (by show 2 * 0 + _ ≤ _; exact Nat.le_of_eq rfl) (hb hby own_dbc1_5) (fun _ _ => ⟨rfl, e1, (by decide : 0 + 0 ≤ _), (by decide : 0 + 0 ≤ _)⟩)
  dsimp only [Pt.U, Pt.locs, Pt.cells, Pt.slots] at X2 l2 y2 z2 st2 hQ2
  subst l2 y2 z2
  obtain ⟨rfl, N2q, e2⟩ := hQ2
  refine own_Fin.go (fun t k => st2.trans k) ?_
  have N2 := Fr.app N0 N2q
  show own_Fin _ _ _ _ _ _ _ (T2.setTop (mkF m 8 #[.val (.ref oa)] [(.int ea)]))
  refine own_retI X2 hx Bd.returns (hb hby own_dbc1_8) Bd.notSynchronized (by decide) (by decide) ?_
  rw [e2]
  exact ⟨rfl, N2, rfl⟩
theorem own_inc {ia t : Int32} {kk : Nat} (hi : ¬ ia < 0) (ht : ia.toInt + ((kk + 1 : Nat) : Int) = t.toInt) : ¬ (ia + (1 : Int32)) < 0 ∧ (ia + (1 : Int32)).toInt + (kk : Int) = t.toInt := by
  have q := own_nn hi
  have q4 := c_iadd ia 1
  have q5 := rng32 (ia + 1)
  have q6 := rng32 t
  have e1 : (1 : Int32).toInt = 1 := rfl
  have e0 : (0 : Int32).toInt = 0 := rfl
  refine ⟨?_, by omega⟩
  rw [Int32.lt_iff_toInt_lt]; omega
theorem own_pd1 : parseMethodDescriptor "()I" = some ⟨[], some .int⟩ := by decide +kernel
theorem own_daa1_0 : decode prog_16_method_6_code 0 = .ok (.aload_n 0, 1) := by decide +kernel
theorem own_daa1_1 : decode prog_16_method_6_code 1 = .ok (.invokevirtual 46, 3) := by decide +kernel
theorem own_daa1_4 : decode prog_16_method_6_code 4 = .ok (.istore_n 1, 1) := by decide +kernel
theorem own_daa1_5 : decode prog_16_method_6_code 5 = .ok (.iconst 0, 1) := by decide +kernel
theorem own_daa1_6 : decode prog_16_method_6_code 6 = .ok (.istore_n 2, 1) := by decide +kernel
theorem own_daa1_7 : decode prog_16_method_6_code 7 = .ok (.iload_n 2, 1) := by decide +kernel
theorem own_daa1_8 : decode prog_16_method_6_code 8 = .ok (.iload_n 1, 1) := by decide +kernel
theorem own_daa1_9 : decode prog_16_method_6_code 9 = .ok (.if_icmp .ge 20, 3) := by decide +kernel
theorem own_daa1_12 : decode prog_16_method_6_code 12 = .ok (.aload_n 0, 1) := by decide +kernel
theorem own_daa1_13 : decode prog_16_method_6_code 13 = .ok (.getfield 9, 3) := by decide +kernel
theorem own_daa1_16 : decode prog_16_method_6_code 16 = .ok (.iload_n 2, 1) := by decide +kernel
theorem own_daa1_17 : decode prog_16_method_6_code 17 = .ok (.baload, 1) := by decide +kernel
theorem own_daa1_18 : decode prog_16_method_6_code 18 = .ok (.ifCond .ge 5, 3) := by decide +kernel
theorem own_daa1_21 : decode prog_16_method_6_code 21 = .ok (.iconst 0, 1) := by decide +kernel
theorem own_daa1_22 : decode prog_16_method_6_code 22 = .ok (.ireturn, 1) := by decide +kernel
theorem own_daa1_23 : decode prog_16_method_6_code 23 = .ok (.iinc 2 1, 3) := by decide +kernel
theorem own_daa1_26 : decode prog_16_method_6_code 26 = .ok (.goto (-19), 3) := by decide +kernel
theorem own_daa1_29 : decode prog_16_method_6_code 29 = .ok (.iconst 1, 1) := by decide +kernel
theorem own_daa1_30 : decode prog_16_method_6_code 30 = .ok (.ireturn, 1) := by decide +kernel
theorem own_ef_aa1 (m : MethodId) (oa : Addr) : entryFrame m #[(.ref oa)] 3 = mkF m 0 #[.val (.ref oa), .unset, .unset] [] := by first | (simp [entryFrame, mkF, argsToLocals, Value.category]; done) | rfl
def own_Q_aa1 (Z : State) (oa : Addr) (ob : Addr) (kb : ClassId) (LB : List Int32) (oe : Addr) (ke : ClassId) (ea : Int32) (eb : Int32) (ec : Int32) (h0 : Heap) (n0 : Nat) (v : Option Value) (h : Heap) (L : List Loc) : Prop := v = some (.int (own_all LB ea)) ∧ Fr n0 L ∧ h = h0
set_option maxRecDepth 65536 in
set_option maxHeartbeats 40000000 in
theorem own_rm_aa1 (l : Launch) (Z : State) (a0 : Array Value) (hw : ∀ d ∈ tables_1, d.before a0 Z = true) (ws : List Jvm.Cond) (oa : Addr) (ob : Addr) (kb : ClassId) (LB : List Int32) (oe : Addr) (ke : ClassId) (ea : Int32) (eb : Int32) (ec : Int32) (h0 : Heap) (n0 : Nat) (Z0 : n0 ≤ h0.size) (E_oa : Exa Z h0 oa "com/example/wardkeeper/wardkeeper/hl7/Lines") (F_oa_bytes : Fld Z h0 oa "com/example/wardkeeper/wardkeeper/hl7/Lines" "bytes" "[B" (.ref ob)) (F_oa_ends : Fld Z h0 oa "com/example/wardkeeper/wardkeeper/hl7/Lines" "ends" "[I" (.ref oe)) (F_oa_count : Fld Z h0 oa "com/example/wardkeeper/wardkeeper/hl7/Lines" "count" "I" (.int (1 : Int32))) (V_ob : Arv Z h0 ob kb .byte (1024 : Int32) (LB.map Value.int) (.int (0 : Int32))) (V_oe : Arv Z h0 oe ke .int (16 : Int32) [(.int ea), (.int eb), (.int ec), (.int (0 : Int32)), (.int (0 : Int32)), (.int (0 : Int32)), (.int (0 : Int32)), (.int (0 : Int32)), (.int (0 : Int32)), (.int (0 : Int32)), (.int (0 : Int32)), (.int (0 : Int32)), (.int (0 : Int32)), (.int (0 : Int32)), (.int (0 : Int32)), (.int (0 : Int32))] (.int (0 : Int32))) (hok : own_ok 100 ea) (hL : LB.length = 1024) :
    MetFree l (⟨"com/example/wardkeeper/wardkeeper/hl7/Lines", "allAscii", "()Z"⟩ : MethodName) (head1 (Jvm.Cond.code (⟨"com/example/wardkeeper/wardkeeper/hl7/Lines", "allAscii", "()Z"⟩ : MethodName) prog_16_method_6_code 3 (some .boolean) :: ws) ({ frames := 2, cells := 0, slots := 0, locals := 25 } : Room)) (fun a U => a = #[(.ref oa)] ∧ Z.Warmed39 U.vm ∧ U.heap = h0) (fun _ _ _ _ _ => True) (fun _ U o U' => ∃ v L, o = .returned v ∧ own_Q_aa1 Z oa ob kb LB oe ke ea eb ec h0 n0 v U'.heap L ∧ FrameEnd U o U' L ({ frames := 2, cells := 0, slots := 0, locals := 25 } : Room).cells ({ frames := 2, cells := 0, slots := 0, locals := 25 } : Room).slots) := by
  refine MetFree.of_bodySF (plainFor_of_name own_pn0) hisR ?_
  intro p e s m args below meth c s₁ Bd hml0 hP hK
  obtain ⟨rfl, hZ, hh⟩ := hP
  have hx := Bd.exec
  have hby := Bd.bytes
  have hml : c.maxLocals = 3 := hml0
  have hown : s.vm.findClass "com/example/wardkeeper/wardkeeper/hl7/Lines" = some m.cls := findClass_of_methodNamed Bd.named
  have hnm := (name_of_methodNamed Bd.named Bd.method).1
  have X0 : Stand p l e ({ frames := 2, cells := 0, slots := 0, locals := 25 } : Room) s m #[(.ref oa)] below meth c s₁ [] 0 0 := Stand.of_body Bd
  have e0 : s₁.heap = h0 := by rw [← hh, Bd.state]; rfl
  have N0 := Fr.nil n0
  show own_Fin p e below s (own_Q_aa1 Z oa ob kb LB oe ke ea eb ec h0 n0) ({ frames := 2, cells := 0, slots := 0, locals := 25 } : Room).cells ({ frames := 2, cells := 0, slots := 0, locals := 25 } : Room).slots (s₁.setTop (entryFrame m #[(.ref oa)] 3))
  refine own_Fin.go (fun t k => castTop (own_ef_aa1 m oa) k) ?_
  refine own_Fin.go (fun t k => XS.aloadN X0.here hx rfl (hb hby own_daa1_0) rfl rfl k) ?_
  show own_Fin _ _ _ _ _ _ _ (s₁.setTop (mkF m 1 #[.val (.ref oa), .unset, .unset] [(.ref oa)]))
  obtain ⟨cq1, kq1, q1a, q1b, q1c⟩ := isOf hZ e0 E_oa
  obtain ⟨_, _, ⟨T1, L1, k1, n1⟩, -, X1, ⟨Lc1, hQ1, l1, y1, z1⟩, st1⟩ := X0.virtualBack hx (y := (⟨"com/example/wardkeeper/wardkeeper/hl7/Lines", "byteCount", "()I"⟩ : MethodName)) (z := (⟨"com/example/wardkeeper/wardkeeper/hl7/Lines", "byteCount", "()I"⟩ : MethodName)) hown (mvT hZ (hw _ (List.mem_of_getElem? (i := 47) rfl))) (mvT hZ (hw _ (List.mem_of_getElem? (i := 48) rfl))) (notFace_of_selects (args := #[]) (mvT hZ (hw _ (List.mem_of_getElem? (i := 50) rfl)))) (mvT hZ (hw _ (List.mem_of_getElem? (i := 50) rfl))) (mvT hZ (hw _ (List.mem_of_getElem? (i := 49) rfl))) (by decide) (backOf (W := 0) (own_rm_bc1 l Z a0 hw [] oa oe ke ea eb ec h0 n0 Z0 E_oa F_oa_ends F_oa_count V_oe) hZ (hw _ (List.mem_of_getElem? (i := 51) rfl)) (hw _ (List.mem_of_getElem? (i := 3) rfl)) (by decide) (by decide)) q1a q1c (g := (mkF m 1 #[.val (.ref oa), .unset, .unset] [(.ref oa)])) rfl (by rw [hml]; rfl) (Steps.refl _) (argsL := []) (rest := []) (lenOf own_pd1 rfl) rfl (by show 2 * 0 + _ ≤ _; exact Nat.le_of_eq rfl) (hb hby own_daa1_1) (fun _ _ => ⟨rfl, e0, (by decide : 0 + 0 ≤ _), (by decide : 0 + 0 ≤ _)⟩)
  dsimp only [Pt.U, Pt.locs, Pt.cells, Pt.slots] at X1 l1 y1 z1 st1 hQ1
  subst l1 y1 z1
  obtain ⟨rfl, N1q, e1⟩ := hQ1
  refine own_Fin.go (fun t k => st1.trans k) ?_
  have N1 := Fr.app N0 N1q
  show own_Fin _ _ _ _ _ _ _ (T1.setTop (mkF m 4 #[.val (.ref oa), .unset, .unset] [(.int ea)]))
  refine own_Fin.go (fun t k => XS.istoreN X1.here hx rfl (hb hby own_daa1_4) rfl (l' := #[.val (.ref oa), .val (.int ea), .unset]) rfl k) ?_
  show own_Fin _ _ _ _ _ _ _ (T1.setTop (mkF m 5 #[.val (.ref oa), .val (.int ea), .unset] []))
  refine own_Fin.go (fun t k => XS.iconst X1.here hx rfl (hb hby own_daa1_5) k) ?_
  show own_Fin _ _ _ _ _ _ _ (T1.setTop (mkF m 6 #[.val (.ref oa), .val (.int ea), .unset] [(.int (0 : Int32))]))
  refine own_Fin.go (fun t k => XS.istoreN X1.here hx rfl (hb hby own_daa1_6) rfl (l' := #[.val (.ref oa), .val (.int ea), .val (.int (0 : Int32))]) rfl k) ?_
  show own_Fin _ _ _ _ _ _ _ (T1.setTop (mkF m 7 #[.val (.ref oa), .val (.int ea), .val (.int (0 : Int32))] []))
  have hloop : ∀ (kk : Nat) (ia : Int32) (TL : State) (LL : List Loc) (XL : Stand p l e ({ frames := 2, cells := 0, slots := 0, locals := 25 } : Room) s m #[(.ref oa)] below meth c TL LL 0 0) (NL : Fr n0 LL) (eL : TL.heap = h0) (hi : ¬ ia < 0) (ht : ia.toInt + (kk : Int) = ea.toInt) (hp : ∀ x ∈ LB.take ia.toNatClampNeg, ¬ x < 0), own_Fin p e below s (own_Q_aa1 Z oa ob kb LB oe ke ea eb ec h0 n0) ({ frames := 2, cells := 0, slots := 0, locals := 25 } : Room).cells ({ frames := 2, cells := 0, slots := 0, locals := 25 } : Room).slots (TL.setTop (mkF m 7 #[.val (.ref oa), .val (.int ea), .val (.int ia)] [])) := by
    intro kk
    induction kk with
    | zero =>
      intro ia TL LL XL NL eL hi ht hp
      refine own_Fin.go (fun t k => XS.iloadN XL.here hx rfl (hb hby own_daa1_7) rfl k) ?_
      show own_Fin _ _ _ _ _ _ _ (TL.setTop (mkF m 8 #[.val (.ref oa), .val (.int ea), .val (.int ia)] [(.int ia)]))
      refine own_Fin.go (fun t k => XS.iloadN XL.here hx rfl (hb hby own_daa1_8) rfl k) ?_
      show own_Fin _ _ _ _ _ _ _ (TL.setTop (mkF m 9 #[.val (.ref oa), .val (.int ea), .val (.int ia)] [(.int ea), (.int ia)]))
      have hc9 : ¬ (ia < ea) := by rw [Int32.lt_iff_toInt_lt]; omega
      refine own_Fin.go (fun t k => XS.icmpYes XL.here hx rfl (pc0 := 9) (pc' := 29) rfl (hb hby own_daa1_9) rfl (Jvm.Free.XT.ii_ge_t hc9) (by decide) (by decide) k) ?_
      show own_Fin _ _ _ _ _ _ _ (TL.setTop (mkF m 29 #[.val (.ref oa), .val (.int ea), .val (.int ia)] []))
      refine own_Fin.go (fun t k => XS.iconst XL.here hx rfl (hb hby own_daa1_29) k) ?_
      show own_Fin _ _ _ _ _ _ _ (TL.setTop (mkF m 30 #[.val (.ref oa), .val (.int ea), .val (.int ia)] [(.int (1 : Int32))]))
      refine own_retN XL hx (t := .boolean) (w := (1 : Int32)) Bd.returns (by simp) (hb hby own_daa1_30) Bd.notSynchronized rfl (by decide) (by decide) ?_
      rw [eL]
      exact ⟨congrArg (fun z => some (Value.int z)) (own_all1 rfl (by have q : ia = ea := Int32.toInt_inj.mp (by omega); rw [← q]; exact hp)).symm, NL, rfl⟩
    | succ kk ih =>
      intro ia TL LL XL NL eL hi ht hp
      refine own_Fin.go (fun t k => XS.iloadN XL.here hx rfl (hb hby own_daa1_7) rfl k) ?_
      show own_Fin _ _ _ _ _ _ _ (TL.setTop (mkF m 8 #[.val (.ref oa), .val (.int ea), .val (.int ia)] [(.int ia)]))
      refine own_Fin.go (fun t k => XS.iloadN XL.here hx rfl (hb hby own_daa1_8) rfl k) ?_
      show own_Fin _ _ _ _ _ _ _ (TL.setTop (mkF m 9 #[.val (.ref oa), .val (.int ea), .val (.int ia)] [(.int ea), (.int ia)]))
      have hc9 : ia < ea := by rw [Int32.lt_iff_toInt_lt]; omega
      refine own_Fin.go (fun t k => XS.icmpNo XL.here hx rfl (hb hby own_daa1_9) rfl (Jvm.Free.XT.ii_ge_f hc9) k) ?_
      show own_Fin _ _ _ _ _ _ _ (TL.setTop (mkF m 12 #[.val (.ref oa), .val (.int ea), .val (.int ia)] []))
      refine own_Fin.go (fun t k => XS.aloadN XL.here hx rfl (hb hby own_daa1_12) rfl rfl k) ?_
      show own_Fin _ _ _ _ _ _ _ (TL.setTop (mkF m 13 #[.val (.ref oa), .val (.int ea), .val (.int ia)] [(.ref oa)]))
      obtain ⟨T2, X2, e2, st2⟩ := getF XL hx hZ hown (host := "") (Or.inl (hw _ (List.mem_of_getElem? (i := 10) rfl))) Via.refl eL F_oa_bytes (g := (mkF m 13 #[.val (.ref oa), .val (.int ea), .val (.int ia)] [(.ref oa)])) rfl rfl (hb hby own_daa1_13)
      refine own_Fin.go st2 ?_
      show own_Fin _ _ _ _ _ _ _ (T2.setTop (mkF m 16 #[.val (.ref oa), .val (.int ea), .val (.int ia)] [(.ref ob)]))
      refine own_Fin.go (fun t k => XS.iloadN X2.here hx rfl (hb hby own_daa1_16) rfl k) ?_
      show own_Fin _ _ _ _ _ _ _ (T2.setTop (mkF m 17 #[.val (.ref oa), .val (.int ea), .val (.int ia)] [(.int ia), (.ref ob)]))
      obtain ⟨cl3, Ar3, q3, S3, N3l, H3, G3⟩ := (id V_ob)
      have hin3 : ¬ (ia < 0 ∨ cl3.slots.size ≤ (ia).toNatClampNeg) := inb_of S3 ⟨hi, by have q1 := hok.2; have e : (1024 : Int32).toInt = 1024 := rfl; rw [Int32.lt_iff_toInt_lt]; omega⟩
      have hat3 : cl3.slots[(ia).toNatClampNeg]? = some (.int (LB.getD ia.toNatClampNeg 0)) := Has.at H3 hin3 (own_mapD LB _)
      refine own_Fin.go (fun t k => X2.baloadBytes hx (j := ia) (v := (.int (LB.getD ia.toNatClampNeg 0))) (by rw [e2]; exact Ar3.1) (State.isArrayOf_alike hZ.alike Ar3.2.1) Ar3.2.2 hin3 hat3 (g := (mkF m 17 #[.val (.ref oa), .val (.int ea), .val (.int ia)] [(.int ia), (.ref ob)])) rfl rfl (hb hby own_daa1_17) t k) ?_
      show own_Fin _ _ _ _ _ _ _ (T2.setTop (mkF m 18 #[.val (.ref oa), .val (.int ea), .val (.int ia)] [(.int (LB.getD ia.toNatClampNeg 0))]))
      by_cases hc18 : (LB.getD ia.toNatClampNeg 0) < (0 : Int32)
      · refine own_Fin.go (fun t k => XS.ifNo X2.here hx rfl (hb hby own_daa1_18) rfl (Jvm.Free.XT.i0_ge_f hc18) k) ?_
        show own_Fin _ _ _ _ _ _ _ (T2.setTop (mkF m 21 #[.val (.ref oa), .val (.int ea), .val (.int ia)] []))
        refine own_Fin.go (fun t k => XS.iconst X2.here hx rfl (hb hby own_daa1_21) k) ?_
        show own_Fin _ _ _ _ _ _ _ (T2.setTop (mkF m 22 #[.val (.ref oa), .val (.int ea), .val (.int ia)] [(.int (0 : Int32))]))
        refine own_retN X2 hx (t := .boolean) (w := (0 : Int32)) Bd.returns (by simp) (hb hby own_daa1_22) Bd.notSynchronized rfl (by decide) (by decide) ?_
        rw [e2]
        exact ⟨congrArg (fun z => some (Value.int z)) (own_seen hL hi hc9 (by have q1 := hok.2; omega) hc18).symm, NL, rfl⟩
      · refine own_Fin.go (fun t k => XS.ifYes X2.here hx rfl (pc0 := 18) (pc' := 23) rfl (hb hby own_daa1_18) rfl (Jvm.Free.XT.i0_ge_t hc18) (by decide) (by decide) k) ?_
        show own_Fin _ _ _ _ _ _ _ (T2.setTop (mkF m 23 #[.val (.ref oa), .val (.int ea), .val (.int ia)] []))
        refine own_Fin.go (fun t k => XS.iinc X2.here hx rfl (hb hby own_daa1_23) rfl (l' := #[.val (.ref oa), .val (.int ea), .val (.int (ia + (1 : Int32)))]) rfl k) ?_
        show own_Fin _ _ _ _ _ _ _ (T2.setTop (mkF m 26 #[.val (.ref oa), .val (.int ea), .val (.int (ia + (1 : Int32)))] []))
        refine own_Fin.go (fun t k => XS.goto X2.here hx rfl (pc0 := 26) (pc' := 7) rfl (hb hby own_daa1_26) (by decide) (by decide) k) ?_
        show own_Fin _ _ _ _ _ _ _ (T2.setTop (mkF m 7 #[.val (.ref oa), .val (.int ea), .val (.int (ia + (1 : Int32)))] []))
        exact ih (ia + (1 : Int32)) T2 _ X2 NL e2 (own_inc hi ht).1 (own_inc hi ht).2 (own_more hL hi (by have q1 := hok.2; omega) hp hc18)
  exact hloop ea.toInt.toNat (0 : Int32) T1 _ X1 N1 e1 (by decide) (by have q := own_nn hok.1; have e0 : (0 : Int32).toInt = 0 := rfl; omega) (by intro x hx; exact nomatch hx)
theorem own_dbc2_0 : decode prog_16_method_5_code 0 = .ok (.aload_n 0, 1) := by decide +kernel
theorem own_dbc2_1 : decode prog_16_method_5_code 1 = .ok (.aload_n 0, 1) := by decide +kernel
theorem own_dbc2_2 : decode prog_16_method_5_code 2 = .ok (.getfield 17, 3) := by decide +kernel
theorem own_dbc2_5 : decode prog_16_method_5_code 5 = .ok (.invokevirtual 21, 3) := by decide +kernel
theorem own_dbc2_8 : decode prog_16_method_5_code 8 = .ok (.ireturn, 1) := by decide +kernel
theorem own_ef_bc2 (m : MethodId) (oa : Addr) : entryFrame m #[(.ref oa)] 1 = mkF m 0 #[.val (.ref oa)] [] := by first | (simp [entryFrame, mkF, argsToLocals, Value.category]; done) | rfl
def own_Q_bc2 (Z : State) (oa : Addr) (oe : Addr) (ke : ClassId) (ea : Int32) (eb : Int32) (ec : Int32) (h0 : Heap) (n0 : Nat) (v : Option Value) (h : Heap) (L : List Loc) : Prop := v = some (.int eb) ∧ Fr n0 L ∧ h = h0
set_option maxRecDepth 65536 in
set_option maxHeartbeats 40000000 in
theorem own_rm_bc2 (l : Launch) (Z : State) (a0 : Array Value) (hw : ∀ d ∈ tables_1, d.before a0 Z = true) (ws : List Jvm.Cond) (oa : Addr) (oe : Addr) (ke : ClassId) (ea : Int32) (eb : Int32) (ec : Int32) (h0 : Heap) (n0 : Nat) (Z0 : n0 ≤ h0.size) (E_oa : Exa Z h0 oa "com/example/wardkeeper/wardkeeper/hl7/Lines") (F_oa_ends : Fld Z h0 oa "com/example/wardkeeper/wardkeeper/hl7/Lines" "ends" "[I" (.ref oe)) (F_oa_count : Fld Z h0 oa "com/example/wardkeeper/wardkeeper/hl7/Lines" "count" "I" (.int (2 : Int32))) (V_oe : Arv Z h0 oe ke .int (16 : Int32) [(.int ea), (.int eb), (.int ec), (.int (0 : Int32)), (.int (0 : Int32)), (.int (0 : Int32)), (.int (0 : Int32)), (.int (0 : Int32)), (.int (0 : Int32)), (.int (0 : Int32)), (.int (0 : Int32)), (.int (0 : Int32)), (.int (0 : Int32)), (.int (0 : Int32)), (.int (0 : Int32)), (.int (0 : Int32))] (.int (0 : Int32))) :
    MetFree l (⟨"com/example/wardkeeper/wardkeeper/hl7/Lines", "byteCount", "()I"⟩ : MethodName) (head1 (Jvm.Cond.code (⟨"com/example/wardkeeper/wardkeeper/hl7/Lines", "byteCount", "()I"⟩ : MethodName) prog_16_method_5_code 1 (some .int) :: ws) ({ frames := 1, cells := 0, slots := 0, locals := 13 } : Room)) (fun a U => a = #[(.ref oa)] ∧ Z.Warmed39 U.vm ∧ U.heap = h0) (fun _ _ _ _ _ => True) (fun _ U o U' => ∃ v L, o = .returned v ∧ own_Q_bc2 Z oa oe ke ea eb ec h0 n0 v U'.heap L ∧ FrameEnd U o U' L ({ frames := 1, cells := 0, slots := 0, locals := 13 } : Room).cells ({ frames := 1, cells := 0, slots := 0, locals := 13 } : Room).slots) := by
  refine MetFree.of_bodySF (plainFor_of_name own_pn0) hisR ?_
  intro p e s m args below meth c s₁ Bd hml0 hP hK
  obtain ⟨rfl, hZ, hh⟩ := hP
  have hx := Bd.exec
  have hby := Bd.bytes
  have hml : c.maxLocals = 1 := hml0
  have hown : s.vm.findClass "com/example/wardkeeper/wardkeeper/hl7/Lines" = some m.cls := findClass_of_methodNamed Bd.named
  have hnm := (name_of_methodNamed Bd.named Bd.method).1
  have X0 : Stand p l e ({ frames := 1, cells := 0, slots := 0, locals := 13 } : Room) s m #[(.ref oa)] below meth c s₁ [] 0 0 := Stand.of_body Bd
  have e0 : s₁.heap = h0 := by rw [← hh, Bd.state]; rfl
  have N0 := Fr.nil n0
  show own_Fin p e below s (own_Q_bc2 Z oa oe ke ea eb ec h0 n0) ({ frames := 1, cells := 0, slots := 0, locals := 13 } : Room).cells ({ frames := 1, cells := 0, slots := 0, locals := 13 } : Room).slots (s₁.setTop (entryFrame m #[(.ref oa)] 1))
  refine own_Fin.go (fun t k => castTop (own_ef_bc2 m oa) k) ?_
  refine own_Fin.go (fun t k => XS.aloadN X0.here hx rfl (hb hby own_dbc2_0) rfl rfl k) ?_
  show own_Fin _ _ _ _ _ _ _ (s₁.setTop (mkF m 1 #[.val (.ref oa)] [(.ref oa)]))
  refine own_Fin.go (fun t k => XS.aloadN X0.here hx rfl (hb hby own_dbc2_1) rfl rfl k) ?_
  show own_Fin _ _ _ _ _ _ _ (s₁.setTop (mkF m 2 #[.val (.ref oa)] [(.ref oa), (.ref oa)]))
  obtain ⟨T1, X1, e1, st1⟩ := getF X0 hx hZ hown (host := "") (Or.inl (hw _ (List.mem_of_getElem? (i := 20) rfl))) Via.refl e0 F_oa_count (g := (mkF m 2 #[.val (.ref oa)] [(.ref oa), (.ref oa)])) rfl rfl (hb hby own_dbc2_2)
  refine own_Fin.go st1 ?_
  show own_Fin _ _ _ _ _ _ _ (T1.setTop (mkF m 5 #[.val (.ref oa)] [(.int (2 : Int32)), (.ref oa)]))
  obtain ⟨cq2, q2, q2'⟩ := E_oa.cell
  obtain ⟨_, _, ⟨T2, L2, k2, n2⟩, -, X2, ⟨Lc2, hQ2, l2, y2, z2⟩, st2⟩ := X1.privateBack hx (y := (⟨"com/example/wardkeeper/wardkeeper/hl7/Lines", "start", "(I)I"⟩ : MethodName)) hown (mvT hZ (hw _ (List.mem_of_getElem? (i := 27) rfl))) (mvT hZ (hw _ (List.mem_of_getElem? (i := 28) rfl))) (own_selp (y := (⟨"com/example/wardkeeper/wardkeeper/hl7/Lines", "start", "(I)I"⟩ : MethodName)) (mvT hZ (hw _ (List.mem_of_getElem? (i := 18) rfl)) (args := #[])) rfl (Cond.privateMethod_at (mvP hZ (hw _ (List.mem_of_getElem? (i := 29) rfl)) (args := #[]))) (mvT hZ (hw _ (List.mem_of_getElem? (i := 28) rfl)) (args := #[])) (by decide)) (Cond.privateMethod_at (mvP hZ (hw _ (List.mem_of_getElem? (i := 29) rfl)) (args := #[]))) (mvT hZ (hw _ (List.mem_of_getElem? (i := 30) rfl))) (by decide) (backOf (W := 0) (own_rm_st2 l Z a0 hw [] oa oe ke ea eb ec h0 n0 Z0 F_oa_ends V_oe) hZ (hw _ (List.mem_of_getElem? (i := 30) rfl)) (hw _ (List.mem_of_getElem? (i := 3) rfl)) (by decide) (by decide)) (g := (mkF m 5 #[.val (.ref oa)] [(.int (2 : Int32)), (.ref oa)])) rfl (by rw [hml]; rfl) (Steps.refl _) (a := oa) (by rw [e1]; exact q2) q2' (argsL := [(.int (2 : Int32))]) (rest := []) (lenOf own_pd0 rfl) rfl (by show 2 * 0 + _ ≤ _; exact Nat.le_of_eq rfl) (hb hby own_dbc2_5) (fun _ _ => ⟨rfl, e1, (by decide : 0 + 0 ≤ _), (by decide : 0 + 0 ≤ _)⟩)
  dsimp only [Pt.U, Pt.locs, Pt.cells, Pt.slots] at X2 l2 y2 z2 st2 hQ2
  subst l2 y2 z2
  obtain ⟨rfl, N2q, e2⟩ := hQ2
  refine own_Fin.go (fun t k => st2.trans k) ?_
  have N2 := Fr.app N0 N2q
  show own_Fin _ _ _ _ _ _ _ (T2.setTop (mkF m 8 #[.val (.ref oa)] [(.int eb)]))
  refine own_retI X2 hx Bd.returns (hb hby own_dbc2_8) Bd.notSynchronized (by decide) (by decide) ?_
  rw [e2]
  exact ⟨rfl, N2, rfl⟩
theorem own_daa2_0 : decode prog_16_method_6_code 0 = .ok (.aload_n 0, 1) := by decide +kernel
theorem own_daa2_1 : decode prog_16_method_6_code 1 = .ok (.invokevirtual 46, 3) := by decide +kernel
theorem own_daa2_4 : decode prog_16_method_6_code 4 = .ok (.istore_n 1, 1) := by decide +kernel
theorem own_daa2_5 : decode prog_16_method_6_code 5 = .ok (.iconst 0, 1) := by decide +kernel
theorem own_daa2_6 : decode prog_16_method_6_code 6 = .ok (.istore_n 2, 1) := by decide +kernel
theorem own_daa2_7 : decode prog_16_method_6_code 7 = .ok (.iload_n 2, 1) := by decide +kernel
theorem own_daa2_8 : decode prog_16_method_6_code 8 = .ok (.iload_n 1, 1) := by decide +kernel
theorem own_daa2_9 : decode prog_16_method_6_code 9 = .ok (.if_icmp .ge 20, 3) := by decide +kernel
theorem own_daa2_12 : decode prog_16_method_6_code 12 = .ok (.aload_n 0, 1) := by decide +kernel
theorem own_daa2_13 : decode prog_16_method_6_code 13 = .ok (.getfield 9, 3) := by decide +kernel
theorem own_daa2_16 : decode prog_16_method_6_code 16 = .ok (.iload_n 2, 1) := by decide +kernel
theorem own_daa2_17 : decode prog_16_method_6_code 17 = .ok (.baload, 1) := by decide +kernel
theorem own_daa2_18 : decode prog_16_method_6_code 18 = .ok (.ifCond .ge 5, 3) := by decide +kernel
theorem own_daa2_21 : decode prog_16_method_6_code 21 = .ok (.iconst 0, 1) := by decide +kernel
theorem own_daa2_22 : decode prog_16_method_6_code 22 = .ok (.ireturn, 1) := by decide +kernel
theorem own_daa2_23 : decode prog_16_method_6_code 23 = .ok (.iinc 2 1, 3) := by decide +kernel
theorem own_daa2_26 : decode prog_16_method_6_code 26 = .ok (.goto (-19), 3) := by decide +kernel
theorem own_daa2_29 : decode prog_16_method_6_code 29 = .ok (.iconst 1, 1) := by decide +kernel
theorem own_daa2_30 : decode prog_16_method_6_code 30 = .ok (.ireturn, 1) := by decide +kernel
theorem own_ef_aa2 (m : MethodId) (oa : Addr) : entryFrame m #[(.ref oa)] 3 = mkF m 0 #[.val (.ref oa), .unset, .unset] [] := by first | (simp [entryFrame, mkF, argsToLocals, Value.category]; done) | rfl
def own_Q_aa2 (Z : State) (oa : Addr) (ob : Addr) (kb : ClassId) (LB : List Int32) (oe : Addr) (ke : ClassId) (ea : Int32) (eb : Int32) (ec : Int32) (h0 : Heap) (n0 : Nat) (v : Option Value) (h : Heap) (L : List Loc) : Prop := v = some (.int (own_all LB eb)) ∧ Fr n0 L ∧ h = h0
set_option maxRecDepth 65536 in
set_option maxHeartbeats 40000000 in
theorem own_rm_aa2 (l : Launch) (Z : State) (a0 : Array Value) (hw : ∀ d ∈ tables_1, d.before a0 Z = true) (ws : List Jvm.Cond) (oa : Addr) (ob : Addr) (kb : ClassId) (LB : List Int32) (oe : Addr) (ke : ClassId) (ea : Int32) (eb : Int32) (ec : Int32) (h0 : Heap) (n0 : Nat) (Z0 : n0 ≤ h0.size) (E_oa : Exa Z h0 oa "com/example/wardkeeper/wardkeeper/hl7/Lines") (F_oa_bytes : Fld Z h0 oa "com/example/wardkeeper/wardkeeper/hl7/Lines" "bytes" "[B" (.ref ob)) (F_oa_ends : Fld Z h0 oa "com/example/wardkeeper/wardkeeper/hl7/Lines" "ends" "[I" (.ref oe)) (F_oa_count : Fld Z h0 oa "com/example/wardkeeper/wardkeeper/hl7/Lines" "count" "I" (.int (2 : Int32))) (V_ob : Arv Z h0 ob kb .byte (1024 : Int32) (LB.map Value.int) (.int (0 : Int32))) (V_oe : Arv Z h0 oe ke .int (16 : Int32) [(.int ea), (.int eb), (.int ec), (.int (0 : Int32)), (.int (0 : Int32)), (.int (0 : Int32)), (.int (0 : Int32)), (.int (0 : Int32)), (.int (0 : Int32)), (.int (0 : Int32)), (.int (0 : Int32)), (.int (0 : Int32)), (.int (0 : Int32)), (.int (0 : Int32)), (.int (0 : Int32)), (.int (0 : Int32))] (.int (0 : Int32))) (hok : own_ok 100 eb) (hL : LB.length = 1024) :
    MetFree l (⟨"com/example/wardkeeper/wardkeeper/hl7/Lines", "allAscii", "()Z"⟩ : MethodName) (head1 (Jvm.Cond.code (⟨"com/example/wardkeeper/wardkeeper/hl7/Lines", "allAscii", "()Z"⟩ : MethodName) prog_16_method_6_code 3 (some .boolean) :: ws) ({ frames := 2, cells := 0, slots := 0, locals := 25 } : Room)) (fun a U => a = #[(.ref oa)] ∧ Z.Warmed39 U.vm ∧ U.heap = h0) (fun _ _ _ _ _ => True) (fun _ U o U' => ∃ v L, o = .returned v ∧ own_Q_aa2 Z oa ob kb LB oe ke ea eb ec h0 n0 v U'.heap L ∧ FrameEnd U o U' L ({ frames := 2, cells := 0, slots := 0, locals := 25 } : Room).cells ({ frames := 2, cells := 0, slots := 0, locals := 25 } : Room).slots) := by
  refine MetFree.of_bodySF (plainFor_of_name own_pn0) hisR ?_
  intro p e s m args below meth c s₁ Bd hml0 hP hK
  obtain ⟨rfl, hZ, hh⟩ := hP
  have hx := Bd.exec
  have hby := Bd.bytes
  have hml : c.maxLocals = 3 := hml0
  have hown : s.vm.findClass "com/example/wardkeeper/wardkeeper/hl7/Lines" = some m.cls := findClass_of_methodNamed Bd.named
  have hnm := (name_of_methodNamed Bd.named Bd.method).1
  have X0 : Stand p l e ({ frames := 2, cells := 0, slots := 0, locals := 25 } : Room) s m #[(.ref oa)] below meth c s₁ [] 0 0 := Stand.of_body Bd
  have e0 : s₁.heap = h0 := by rw [← hh, Bd.state]; rfl
  have N0 := Fr.nil n0
  show own_Fin p e below s (own_Q_aa2 Z oa ob kb LB oe ke ea eb ec h0 n0) ({ frames := 2, cells := 0, slots := 0, locals := 25 } : Room).cells ({ frames := 2, cells := 0, slots := 0, locals := 25 } : Room).slots (s₁.setTop (entryFrame m #[(.ref oa)] 3))
  refine own_Fin.go (fun t k => castTop (own_ef_aa2 m oa) k) ?_
  refine own_Fin.go (fun t k => XS.aloadN X0.here hx rfl (hb hby own_daa2_0) rfl rfl k) ?_
  show own_Fin _ _ _ _ _ _ _ (s₁.setTop (mkF m 1 #[.val (.ref oa), .unset, .unset] [(.ref oa)]))
  obtain ⟨cq1, kq1, q1a, q1b, q1c⟩ := isOf hZ e0 E_oa
  obtain ⟨_, _, ⟨T1, L1, k1, n1⟩, -, X1, ⟨Lc1, hQ1, l1, y1, z1⟩, st1⟩ := X0.virtualBack hx (y := (⟨"com/example/wardkeeper/wardkeeper/hl7/Lines", "byteCount", "()I"⟩ : MethodName)) (z := (⟨"com/example/wardkeeper/wardkeeper/hl7/Lines", "byteCount", "()I"⟩ : MethodName)) hown (mvT hZ (hw _ (List.mem_of_getElem? (i := 47) rfl))) (mvT hZ (hw _ (List.mem_of_getElem? (i := 48) rfl))) (notFace_of_selects (args := #[]) (mvT hZ (hw _ (List.mem_of_getElem? (i := 50) rfl)))) (mvT hZ (hw _ (List.mem_of_getElem? (i := 50) rfl))) (mvT hZ (hw _ (List.mem_of_getElem? (i := 49) rfl))) (by decide) (backOf (W := 0) (own_rm_bc2 l Z a0 hw [] oa oe ke ea eb ec h0 n0 Z0 E_oa F_oa_ends F_oa_count V_oe) hZ (hw _ (List.mem_of_getElem? (i := 51) rfl)) (hw _ (List.mem_of_getElem? (i := 3) rfl)) (by decide) (by decide)) q1a q1c (g := (mkF m 1 #[.val (.ref oa), .unset, .unset] [(.ref oa)])) rfl (by rw [hml]; rfl) (Steps.refl _) (argsL := []) (rest := []) (lenOf own_pd1 rfl) rfl (by show 2 * 0 + _ ≤ _; exact Nat.le_of_eq rfl) (hb hby own_daa2_1) (fun _ _ => ⟨rfl, e0, (by decide : 0 + 0 ≤ _), (by decide : 0 + 0 ≤ _)⟩)
  dsimp only [Pt.U, Pt.locs, Pt.cells, Pt.slots] at X1 l1 y1 z1 st1 hQ1
  subst l1 y1 z1
  obtain ⟨rfl, N1q, e1⟩ := hQ1
  refine own_Fin.go (fun t k => st1.trans k) ?_
  have N1 := Fr.app N0 N1q
  show own_Fin _ _ _ _ _ _ _ (T1.setTop (mkF m 4 #[.val (.ref oa), .unset, .unset] [(.int eb)]))
  refine own_Fin.go (fun t k => XS.istoreN X1.here hx rfl (hb hby own_daa2_4) rfl (l' := #[.val (.ref oa), .val (.int eb), .unset]) rfl k) ?_
  show own_Fin _ _ _ _ _ _ _ (T1.setTop (mkF m 5 #[.val (.ref oa), .val (.int eb), .unset] []))
  refine own_Fin.go (fun t k => XS.iconst X1.here hx rfl (hb hby own_daa2_5) k) ?_
  show own_Fin _ _ _ _ _ _ _ (T1.setTop (mkF m 6 #[.val (.ref oa), .val (.int eb), .unset] [(.int (0 : Int32))]))
  refine own_Fin.go (fun t k => XS.istoreN X1.here hx rfl (hb hby own_daa2_6) rfl (l' := #[.val (.ref oa), .val (.int eb), .val (.int (0 : Int32))]) rfl k) ?_
  show own_Fin _ _ _ _ _ _ _ (T1.setTop (mkF m 7 #[.val (.ref oa), .val (.int eb), .val (.int (0 : Int32))] []))
  have hloop : ∀ (kk : Nat) (ia : Int32) (TL : State) (LL : List Loc) (XL : Stand p l e ({ frames := 2, cells := 0, slots := 0, locals := 25 } : Room) s m #[(.ref oa)] below meth c TL LL 0 0) (NL : Fr n0 LL) (eL : TL.heap = h0) (hi : ¬ ia < 0) (ht : ia.toInt + (kk : Int) = eb.toInt) (hp : ∀ x ∈ LB.take ia.toNatClampNeg, ¬ x < 0), own_Fin p e below s (own_Q_aa2 Z oa ob kb LB oe ke ea eb ec h0 n0) ({ frames := 2, cells := 0, slots := 0, locals := 25 } : Room).cells ({ frames := 2, cells := 0, slots := 0, locals := 25 } : Room).slots (TL.setTop (mkF m 7 #[.val (.ref oa), .val (.int eb), .val (.int ia)] [])) := by
    intro kk
    induction kk with
    | zero =>
      intro ia TL LL XL NL eL hi ht hp
      refine own_Fin.go (fun t k => XS.iloadN XL.here hx rfl (hb hby own_daa2_7) rfl k) ?_
      show own_Fin _ _ _ _ _ _ _ (TL.setTop (mkF m 8 #[.val (.ref oa), .val (.int eb), .val (.int ia)] [(.int ia)]))
      refine own_Fin.go (fun t k => XS.iloadN XL.here hx rfl (hb hby own_daa2_8) rfl k) ?_
      show own_Fin _ _ _ _ _ _ _ (TL.setTop (mkF m 9 #[.val (.ref oa), .val (.int eb), .val (.int ia)] [(.int eb), (.int ia)]))
      have hc9 : ¬ (ia < eb) := by rw [Int32.lt_iff_toInt_lt]; omega
      refine own_Fin.go (fun t k => XS.icmpYes XL.here hx rfl (pc0 := 9) (pc' := 29) rfl (hb hby own_daa2_9) rfl (Jvm.Free.XT.ii_ge_t hc9) (by decide) (by decide) k) ?_
      show own_Fin _ _ _ _ _ _ _ (TL.setTop (mkF m 29 #[.val (.ref oa), .val (.int eb), .val (.int ia)] []))
      refine own_Fin.go (fun t k => XS.iconst XL.here hx rfl (hb hby own_daa2_29) k) ?_
      show own_Fin _ _ _ _ _ _ _ (TL.setTop (mkF m 30 #[.val (.ref oa), .val (.int eb), .val (.int ia)] [(.int (1 : Int32))]))
      refine own_retN XL hx (t := .boolean) (w := (1 : Int32)) Bd.returns (by simp) (hb hby own_daa2_30) Bd.notSynchronized rfl (by decide) (by decide) ?_
      rw [eL]
      exact ⟨congrArg (fun z => some (Value.int z)) (own_all1 rfl (by have q : ia = eb := Int32.toInt_inj.mp (by omega); rw [← q]; exact hp)).symm, NL, rfl⟩
    | succ kk ih =>
      intro ia TL LL XL NL eL hi ht hp
      refine own_Fin.go (fun t k => XS.iloadN XL.here hx rfl (hb hby own_daa2_7) rfl k) ?_
      show own_Fin _ _ _ _ _ _ _ (TL.setTop (mkF m 8 #[.val (.ref oa), .val (.int eb), .val (.int ia)] [(.int ia)]))
      refine own_Fin.go (fun t k => XS.iloadN XL.here hx rfl (hb hby own_daa2_8) rfl k) ?_
      show own_Fin _ _ _ _ _ _ _ (TL.setTop (mkF m 9 #[.val (.ref oa), .val (.int eb), .val (.int ia)] [(.int eb), (.int ia)]))
      have hc9 : ia < eb := by rw [Int32.lt_iff_toInt_lt]; omega
      refine own_Fin.go (fun t k => XS.icmpNo XL.here hx rfl (hb hby own_daa2_9) rfl (Jvm.Free.XT.ii_ge_f hc9) k) ?_
      show own_Fin _ _ _ _ _ _ _ (TL.setTop (mkF m 12 #[.val (.ref oa), .val (.int eb), .val (.int ia)] []))
      refine own_Fin.go (fun t k => XS.aloadN XL.here hx rfl (hb hby own_daa2_12) rfl rfl k) ?_
      show own_Fin _ _ _ _ _ _ _ (TL.setTop (mkF m 13 #[.val (.ref oa), .val (.int eb), .val (.int ia)] [(.ref oa)]))
      obtain ⟨T2, X2, e2, st2⟩ := getF XL hx hZ hown (host := "") (Or.inl (hw _ (List.mem_of_getElem? (i := 10) rfl))) Via.refl eL F_oa_bytes (g := (mkF m 13 #[.val (.ref oa), .val (.int eb), .val (.int ia)] [(.ref oa)])) rfl rfl (hb hby own_daa2_13)
      refine own_Fin.go st2 ?_
      show own_Fin _ _ _ _ _ _ _ (T2.setTop (mkF m 16 #[.val (.ref oa), .val (.int eb), .val (.int ia)] [(.ref ob)]))
      refine own_Fin.go (fun t k => XS.iloadN X2.here hx rfl (hb hby own_daa2_16) rfl k) ?_
      show own_Fin _ _ _ _ _ _ _ (T2.setTop (mkF m 17 #[.val (.ref oa), .val (.int eb), .val (.int ia)] [(.int ia), (.ref ob)]))
      obtain ⟨cl3, Ar3, q3, S3, N3l, H3, G3⟩ := (id V_ob)
      have hin3 : ¬ (ia < 0 ∨ cl3.slots.size ≤ (ia).toNatClampNeg) := inb_of S3 ⟨hi, by have q1 := hok.2; have e : (1024 : Int32).toInt = 1024 := rfl; rw [Int32.lt_iff_toInt_lt]; omega⟩
      have hat3 : cl3.slots[(ia).toNatClampNeg]? = some (.int (LB.getD ia.toNatClampNeg 0)) := Has.at H3 hin3 (own_mapD LB _)
      refine own_Fin.go (fun t k => X2.baloadBytes hx (j := ia) (v := (.int (LB.getD ia.toNatClampNeg 0))) (by rw [e2]; exact Ar3.1) (State.isArrayOf_alike hZ.alike Ar3.2.1) Ar3.2.2 hin3 hat3 (g := (mkF m 17 #[.val (.ref oa), .val (.int eb), .val (.int ia)] [(.int ia), (.ref ob)])) rfl rfl (hb hby own_daa2_17) t k) ?_
      show own_Fin _ _ _ _ _ _ _ (T2.setTop (mkF m 18 #[.val (.ref oa), .val (.int eb), .val (.int ia)] [(.int (LB.getD ia.toNatClampNeg 0))]))
      by_cases hc18 : (LB.getD ia.toNatClampNeg 0) < (0 : Int32)
      · refine own_Fin.go (fun t k => XS.ifNo X2.here hx rfl (hb hby own_daa2_18) rfl (Jvm.Free.XT.i0_ge_f hc18) k) ?_
        show own_Fin _ _ _ _ _ _ _ (T2.setTop (mkF m 21 #[.val (.ref oa), .val (.int eb), .val (.int ia)] []))
        refine own_Fin.go (fun t k => XS.iconst X2.here hx rfl (hb hby own_daa2_21) k) ?_
        show own_Fin _ _ _ _ _ _ _ (T2.setTop (mkF m 22 #[.val (.ref oa), .val (.int eb), .val (.int ia)] [(.int (0 : Int32))]))
        refine own_retN X2 hx (t := .boolean) (w := (0 : Int32)) Bd.returns (by simp) (hb hby own_daa2_22) Bd.notSynchronized rfl (by decide) (by decide) ?_
        rw [e2]
        exact ⟨congrArg (fun z => some (Value.int z)) (own_seen hL hi hc9 (by have q1 := hok.2; omega) hc18).symm, NL, rfl⟩
      · refine own_Fin.go (fun t k => XS.ifYes X2.here hx rfl (pc0 := 18) (pc' := 23) rfl (hb hby own_daa2_18) rfl (Jvm.Free.XT.i0_ge_t hc18) (by decide) (by decide) k) ?_
        show own_Fin _ _ _ _ _ _ _ (T2.setTop (mkF m 23 #[.val (.ref oa), .val (.int eb), .val (.int ia)] []))
        refine own_Fin.go (fun t k => XS.iinc X2.here hx rfl (hb hby own_daa2_23) rfl (l' := #[.val (.ref oa), .val (.int eb), .val (.int (ia + (1 : Int32)))]) rfl k) ?_
        show own_Fin _ _ _ _ _ _ _ (T2.setTop (mkF m 26 #[.val (.ref oa), .val (.int eb), .val (.int (ia + (1 : Int32)))] []))
        refine own_Fin.go (fun t k => XS.goto X2.here hx rfl (pc0 := 26) (pc' := 7) rfl (hb hby own_daa2_26) (by decide) (by decide) k) ?_
        show own_Fin _ _ _ _ _ _ _ (T2.setTop (mkF m 7 #[.val (.ref oa), .val (.int eb), .val (.int (ia + (1 : Int32)))] []))
        exact ih (ia + (1 : Int32)) T2 _ X2 NL e2 (own_inc hi ht).1 (own_inc hi ht).2 (own_more hL hi (by have q1 := hok.2; omega) hp hc18)
  exact hloop eb.toInt.toNat (0 : Int32) T1 _ X1 N1 e1 (by decide) (by have q := own_nn hok.1; have e0 : (0 : Int32).toInt = 0 := rfl; omega) (by intro x hx; exact nomatch hx)
theorem own_dbc3_0 : decode prog_16_method_5_code 0 = .ok (.aload_n 0, 1) := by decide +kernel
theorem own_dbc3_1 : decode prog_16_method_5_code 1 = .ok (.aload_n 0, 1) := by decide +kernel
theorem own_dbc3_2 : decode prog_16_method_5_code 2 = .ok (.getfield 17, 3) := by decide +kernel
theorem own_dbc3_5 : decode prog_16_method_5_code 5 = .ok (.invokevirtual 21, 3) := by decide +kernel
theorem own_dbc3_8 : decode prog_16_method_5_code 8 = .ok (.ireturn, 1) := by decide +kernel
theorem own_ef_bc3 (m : MethodId) (oa : Addr) : entryFrame m #[(.ref oa)] 1 = mkF m 0 #[.val (.ref oa)] [] := by first | (simp [entryFrame, mkF, argsToLocals, Value.category]; done) | rfl
def own_Q_bc3 (Z : State) (oa : Addr) (oe : Addr) (ke : ClassId) (ea : Int32) (eb : Int32) (ec : Int32) (h0 : Heap) (n0 : Nat) (v : Option Value) (h : Heap) (L : List Loc) : Prop := v = some (.int ec) ∧ Fr n0 L ∧ h = h0
set_option maxRecDepth 65536 in
set_option maxHeartbeats 40000000 in
theorem own_rm_bc3 (l : Launch) (Z : State) (a0 : Array Value) (hw : ∀ d ∈ tables_1, d.before a0 Z = true) (ws : List Jvm.Cond) (oa : Addr) (oe : Addr) (ke : ClassId) (ea : Int32) (eb : Int32) (ec : Int32) (h0 : Heap) (n0 : Nat) (Z0 : n0 ≤ h0.size) (E_oa : Exa Z h0 oa "com/example/wardkeeper/wardkeeper/hl7/Lines") (F_oa_ends : Fld Z h0 oa "com/example/wardkeeper/wardkeeper/hl7/Lines" "ends" "[I" (.ref oe)) (F_oa_count : Fld Z h0 oa "com/example/wardkeeper/wardkeeper/hl7/Lines" "count" "I" (.int (3 : Int32))) (V_oe : Arv Z h0 oe ke .int (16 : Int32) [(.int ea), (.int eb), (.int ec), (.int (0 : Int32)), (.int (0 : Int32)), (.int (0 : Int32)), (.int (0 : Int32)), (.int (0 : Int32)), (.int (0 : Int32)), (.int (0 : Int32)), (.int (0 : Int32)), (.int (0 : Int32)), (.int (0 : Int32)), (.int (0 : Int32)), (.int (0 : Int32)), (.int (0 : Int32))] (.int (0 : Int32))) :
    MetFree l (⟨"com/example/wardkeeper/wardkeeper/hl7/Lines", "byteCount", "()I"⟩ : MethodName) (head1 (Jvm.Cond.code (⟨"com/example/wardkeeper/wardkeeper/hl7/Lines", "byteCount", "()I"⟩ : MethodName) prog_16_method_5_code 1 (some .int) :: ws) ({ frames := 1, cells := 0, slots := 0, locals := 13 } : Room)) (fun a U => a = #[(.ref oa)] ∧ Z.Warmed39 U.vm ∧ U.heap = h0) (fun _ _ _ _ _ => True) (fun _ U o U' => ∃ v L, o = .returned v ∧ own_Q_bc3 Z oa oe ke ea eb ec h0 n0 v U'.heap L ∧ FrameEnd U o U' L ({ frames := 1, cells := 0, slots := 0, locals := 13 } : Room).cells ({ frames := 1, cells := 0, slots := 0, locals := 13 } : Room).slots) := by
  refine MetFree.of_bodySF (plainFor_of_name own_pn0) hisR ?_
  intro p e s m args below meth c s₁ Bd hml0 hP hK
  obtain ⟨rfl, hZ, hh⟩ := hP
  have hx := Bd.exec
  have hby := Bd.bytes
  have hml : c.maxLocals = 1 := hml0
  have hown : s.vm.findClass "com/example/wardkeeper/wardkeeper/hl7/Lines" = some m.cls := findClass_of_methodNamed Bd.named
  have hnm := (name_of_methodNamed Bd.named Bd.method).1
  have X0 : Stand p l e ({ frames := 1, cells := 0, slots := 0, locals := 13 } : Room) s m #[(.ref oa)] below meth c s₁ [] 0 0 := Stand.of_body Bd
  have e0 : s₁.heap = h0 := by rw [← hh, Bd.state]; rfl
  have N0 := Fr.nil n0
  show own_Fin p e below s (own_Q_bc3 Z oa oe ke ea eb ec h0 n0) ({ frames := 1, cells := 0, slots := 0, locals := 13 } : Room).cells ({ frames := 1, cells := 0, slots := 0, locals := 13 } : Room).slots (s₁.setTop (entryFrame m #[(.ref oa)] 1))
  refine own_Fin.go (fun t k => castTop (own_ef_bc3 m oa) k) ?_
  refine own_Fin.go (fun t k => XS.aloadN X0.here hx rfl (hb hby own_dbc3_0) rfl rfl k) ?_
  show own_Fin _ _ _ _ _ _ _ (s₁.setTop (mkF m 1 #[.val (.ref oa)] [(.ref oa)]))
  refine own_Fin.go (fun t k => XS.aloadN X0.here hx rfl (hb hby own_dbc3_1) rfl rfl k) ?_
  show own_Fin _ _ _ _ _ _ _ (s₁.setTop (mkF m 2 #[.val (.ref oa)] [(.ref oa), (.ref oa)]))
  obtain ⟨T1, X1, e1, st1⟩ := getF X0 hx hZ hown (host := "") (Or.inl (hw _ (List.mem_of_getElem? (i := 20) rfl))) Via.refl e0 F_oa_count (g := (mkF m 2 #[.val (.ref oa)] [(.ref oa), (.ref oa)])) rfl rfl (hb hby own_dbc3_2)
  refine own_Fin.go st1 ?_
  show own_Fin _ _ _ _ _ _ _ (T1.setTop (mkF m 5 #[.val (.ref oa)] [(.int (3 : Int32)), (.ref oa)]))
  obtain ⟨cq2, q2, q2'⟩ := E_oa.cell
  obtain ⟨_, _, ⟨T2, L2, k2, n2⟩, -, X2, ⟨Lc2, hQ2, l2, y2, z2⟩, st2⟩ := X1.privateBack hx (y := (⟨"com/example/wardkeeper/wardkeeper/hl7/Lines", "start", "(I)I"⟩ : MethodName)) hown (mvT hZ (hw _ (List.mem_of_getElem? (i := 27) rfl))) (mvT hZ (hw _ (List.mem_of_getElem? (i := 28) rfl))) (own_selp (y := (⟨"com/example/wardkeeper/wardkeeper/hl7/Lines", "start", "(I)I"⟩ : MethodName)) (mvT hZ (hw _ (List.mem_of_getElem? (i := 18) rfl)) (args := #[])) rfl (Cond.privateMethod_at (mvP hZ (hw _ (List.mem_of_getElem? (i := 29) rfl)) (args := #[]))) (mvT hZ (hw _ (List.mem_of_getElem? (i := 28) rfl)) (args := #[])) (by decide)) (Cond.privateMethod_at (mvP hZ (hw _ (List.mem_of_getElem? (i := 29) rfl)) (args := #[]))) (mvT hZ (hw _ (List.mem_of_getElem? (i := 30) rfl))) (by decide) (backOf (W := 0) (own_rm_st3 l Z a0 hw [] oa oe ke ea eb ec h0 n0 Z0 F_oa_ends V_oe) hZ (hw _ (List.mem_of_getElem? (i := 30) rfl)) (hw _ (List.mem_of_getElem? (i := 3) rfl)) (by decide) (by decide)) (g := (mkF m 5 #[.val (.ref oa)] [(.int (3 : Int32)), (.ref oa)])) rfl (by rw [hml]; rfl) (Steps.refl _) (a := oa) (by rw [e1]; exact q2) q2' (argsL := [(.int (3 : Int32))]) (rest := []) (lenOf own_pd0 rfl) rfl (by show 2 * 0 + _ ≤ _; exact Nat.le_of_eq rfl) (hb hby own_dbc3_5) (fun _ _ => ⟨rfl, e1, (by decide : 0 + 0 ≤ _), (by decide : 0 + 0 ≤ _)⟩)
  dsimp only [Pt.U, Pt.locs, Pt.cells, Pt.slots] at X2 l2 y2 z2 st2 hQ2
  subst l2 y2 z2
  obtain ⟨rfl, N2q, e2⟩ := hQ2
  refine own_Fin.go (fun t k => st2.trans k) ?_
  have N2 := Fr.app N0 N2q
  show own_Fin _ _ _ _ _ _ _ (T2.setTop (mkF m 8 #[.val (.ref oa)] [(.int ec)]))
  refine own_retI X2 hx Bd.returns (hb hby own_dbc3_8) Bd.notSynchronized (by decide) (by decide) ?_
  rw [e2]
  exact ⟨rfl, N2, rfl⟩
theorem own_daa3_0 : decode prog_16_method_6_code 0 = .ok (.aload_n 0, 1) := by decide +kernel
theorem own_daa3_1 : decode prog_16_method_6_code 1 = .ok (.invokevirtual 46, 3) := by decide +kernel
theorem own_daa3_4 : decode prog_16_method_6_code 4 = .ok (.istore_n 1, 1) := by decide +kernel
theorem own_daa3_5 : decode prog_16_method_6_code 5 = .ok (.iconst 0, 1) := by decide +kernel
theorem own_daa3_6 : decode prog_16_method_6_code 6 = .ok (.istore_n 2, 1) := by decide +kernel
theorem own_daa3_7 : decode prog_16_method_6_code 7 = .ok (.iload_n 2, 1) := by decide +kernel
theorem own_daa3_8 : decode prog_16_method_6_code 8 = .ok (.iload_n 1, 1) := by decide +kernel
theorem own_daa3_9 : decode prog_16_method_6_code 9 = .ok (.if_icmp .ge 20, 3) := by decide +kernel
theorem own_daa3_12 : decode prog_16_method_6_code 12 = .ok (.aload_n 0, 1) := by decide +kernel
theorem own_daa3_13 : decode prog_16_method_6_code 13 = .ok (.getfield 9, 3) := by decide +kernel
theorem own_daa3_16 : decode prog_16_method_6_code 16 = .ok (.iload_n 2, 1) := by decide +kernel
theorem own_daa3_17 : decode prog_16_method_6_code 17 = .ok (.baload, 1) := by decide +kernel
theorem own_daa3_18 : decode prog_16_method_6_code 18 = .ok (.ifCond .ge 5, 3) := by decide +kernel
theorem own_daa3_21 : decode prog_16_method_6_code 21 = .ok (.iconst 0, 1) := by decide +kernel
theorem own_daa3_22 : decode prog_16_method_6_code 22 = .ok (.ireturn, 1) := by decide +kernel
theorem own_daa3_23 : decode prog_16_method_6_code 23 = .ok (.iinc 2 1, 3) := by decide +kernel
theorem own_daa3_26 : decode prog_16_method_6_code 26 = .ok (.goto (-19), 3) := by decide +kernel
theorem own_daa3_29 : decode prog_16_method_6_code 29 = .ok (.iconst 1, 1) := by decide +kernel
theorem own_daa3_30 : decode prog_16_method_6_code 30 = .ok (.ireturn, 1) := by decide +kernel
theorem own_ef_aa3 (m : MethodId) (oa : Addr) : entryFrame m #[(.ref oa)] 3 = mkF m 0 #[.val (.ref oa), .unset, .unset] [] := by first | (simp [entryFrame, mkF, argsToLocals, Value.category]; done) | rfl
def own_Q_aa3 (Z : State) (oa : Addr) (ob : Addr) (kb : ClassId) (LB : List Int32) (oe : Addr) (ke : ClassId) (ea : Int32) (eb : Int32) (ec : Int32) (h0 : Heap) (n0 : Nat) (v : Option Value) (h : Heap) (L : List Loc) : Prop := v = some (.int (own_all LB ec)) ∧ Fr n0 L ∧ h = h0
set_option maxRecDepth 65536 in
set_option maxHeartbeats 40000000 in
theorem own_rm_aa3 (l : Launch) (Z : State) (a0 : Array Value) (hw : ∀ d ∈ tables_1, d.before a0 Z = true) (ws : List Jvm.Cond) (oa : Addr) (ob : Addr) (kb : ClassId) (LB : List Int32) (oe : Addr) (ke : ClassId) (ea : Int32) (eb : Int32) (ec : Int32) (h0 : Heap) (n0 : Nat) (Z0 : n0 ≤ h0.size) (E_oa : Exa Z h0 oa "com/example/wardkeeper/wardkeeper/hl7/Lines") (F_oa_bytes : Fld Z h0 oa "com/example/wardkeeper/wardkeeper/hl7/Lines" "bytes" "[B" (.ref ob)) (F_oa_ends : Fld Z h0 oa "com/example/wardkeeper/wardkeeper/hl7/Lines" "ends" "[I" (.ref oe)) (F_oa_count : Fld Z h0 oa "com/example/wardkeeper/wardkeeper/hl7/Lines" "count" "I" (.int (3 : Int32))) (V_ob : Arv Z h0 ob kb .byte (1024 : Int32) (LB.map Value.int) (.int (0 : Int32))) (V_oe : Arv Z h0 oe ke .int (16 : Int32) [(.int ea), (.int eb), (.int ec), (.int (0 : Int32)), (.int (0 : Int32)), (.int (0 : Int32)), (.int (0 : Int32)), (.int (0 : Int32)), (.int (0 : Int32)), (.int (0 : Int32)), (.int (0 : Int32)), (.int (0 : Int32)), (.int (0 : Int32)), (.int (0 : Int32)), (.int (0 : Int32)), (.int (0 : Int32))] (.int (0 : Int32))) (hok : own_ok 100 ec) (hL : LB.length = 1024) :
    MetFree l (⟨"com/example/wardkeeper/wardkeeper/hl7/Lines", "allAscii", "()Z"⟩ : MethodName) (head1 (Jvm.Cond.code (⟨"com/example/wardkeeper/wardkeeper/hl7/Lines", "allAscii", "()Z"⟩ : MethodName) prog_16_method_6_code 3 (some .boolean) :: ws) ({ frames := 2, cells := 0, slots := 0, locals := 25 } : Room)) (fun a U => a = #[(.ref oa)] ∧ Z.Warmed39 U.vm ∧ U.heap = h0) (fun _ _ _ _ _ => True) (fun _ U o U' => ∃ v L, o = .returned v ∧ own_Q_aa3 Z oa ob kb LB oe ke ea eb ec h0 n0 v U'.heap L ∧ FrameEnd U o U' L ({ frames := 2, cells := 0, slots := 0, locals := 25 } : Room).cells ({ frames := 2, cells := 0, slots := 0, locals := 25 } : Room).slots) := by
  refine MetFree.of_bodySF (plainFor_of_name own_pn0) hisR ?_
  intro p e s m args below meth c s₁ Bd hml0 hP hK
  obtain ⟨rfl, hZ, hh⟩ := hP
  have hx := Bd.exec
  have hby := Bd.bytes
  have hml : c.maxLocals = 3 := hml0
  have hown : s.vm.findClass "com/example/wardkeeper/wardkeeper/hl7/Lines" = some m.cls := findClass_of_methodNamed Bd.named
  have hnm := (name_of_methodNamed Bd.named Bd.method).1
  have X0 : Stand p l e ({ frames := 2, cells := 0, slots := 0, locals := 25 } : Room) s m #[(.ref oa)] below meth c s₁ [] 0 0 := Stand.of_body Bd
  have e0 : s₁.heap = h0 := by rw [← hh, Bd.state]; rfl
  have N0 := Fr.nil n0
  show own_Fin p e below s (own_Q_aa3 Z oa ob kb LB oe ke ea eb ec h0 n0) ({ frames := 2, cells := 0, slots := 0, locals := 25 } : Room).cells ({ frames := 2, cells := 0, slots := 0, locals := 25 } : Room).slots (s₁.setTop (entryFrame m #[(.ref oa)] 3))
  refine own_Fin.go (fun t k => castTop (own_ef_aa3 m oa) k) ?_
  refine own_Fin.go (fun t k => XS.aloadN X0.here hx rfl (hb hby own_daa3_0) rfl rfl k) ?_
  show own_Fin _ _ _ _ _ _ _ (s₁.setTop (mkF m 1 #[.val (.ref oa), .unset, .unset] [(.ref oa)]))
  obtain ⟨cq1, kq1, q1a, q1b, q1c⟩ := isOf hZ e0 E_oa
  obtain ⟨_, _, ⟨T1, L1, k1, n1⟩, -, X1, ⟨Lc1, hQ1, l1, y1, z1⟩, st1⟩ := X0.virtualBack hx (y := (⟨"com/example/wardkeeper/wardkeeper/hl7/Lines", "byteCount", "()I"⟩ : MethodName)) (z := (⟨"com/example/wardkeeper/wardkeeper/hl7/Lines", "byteCount", "()I"⟩ : MethodName)) hown (mvT hZ (hw _ (List.mem_of_getElem? (i := 47) rfl))) (mvT hZ (hw _ (List.mem_of_getElem? (i := 48) rfl))) (notFace_of_selects (args := #[]) (mvT hZ (hw _ (List.mem_of_getElem? (i := 50) rfl)))) (mvT hZ (hw _ (List.mem_of_getElem? (i := 50) rfl))) (mvT hZ (hw _ (List.mem_of_getElem? (i := 49) rfl))) (by decide) (backOf (W := 0) (own_rm_bc3 l Z a0 hw [] oa oe ke ea eb ec h0 n0 Z0 E_oa F_oa_ends F_oa_count V_oe) hZ (hw _ (List.mem_of_getElem? (i := 51) rfl)) (hw _ (List.mem_of_getElem? (i := 3) rfl)) (by decide) (by decide)) q1a q1c (g := (mkF m 1 #[.val (.ref oa), .unset, .unset] [(.ref oa)])) rfl (by rw [hml]; rfl) (Steps.refl _) (argsL := []) (rest := []) (lenOf own_pd1 rfl) rfl (by show 2 * 0 + _ ≤ _; exact Nat.le_of_eq rfl) (hb hby own_daa3_1) (fun _ _ => ⟨rfl, e0, (by decide : 0 + 0 ≤ _), (by decide : 0 + 0 ≤ _)⟩)
  dsimp only [Pt.U, Pt.locs, Pt.cells, Pt.slots] at X1 l1 y1 z1 st1 hQ1
  subst l1 y1 z1
  obtain ⟨rfl, N1q, e1⟩ := hQ1
  refine own_Fin.go (fun t k => st1.trans k) ?_
  have N1 := Fr.app N0 N1q
  show own_Fin _ _ _ _ _ _ _ (T1.setTop (mkF m 4 #[.val (.ref oa), .unset, .unset] [(.int ec)]))
  refine own_Fin.go (fun t k => XS.istoreN X1.here hx rfl (hb hby own_daa3_4) rfl (l' := #[.val (.ref oa), .val (.int ec), .unset]) rfl k) ?_
  show own_Fin _ _ _ _ _ _ _ (T1.setTop (mkF m 5 #[.val (.ref oa), .val (.int ec), .unset] []))
  refine own_Fin.go (fun t k => XS.iconst X1.here hx rfl (hb hby own_daa3_5) k) ?_
  show own_Fin _ _ _ _ _ _ _ (T1.setTop (mkF m 6 #[.val (.ref oa), .val (.int ec), .unset] [(.int (0 : Int32))]))
  refine own_Fin.go (fun t k => XS.istoreN X1.here hx rfl (hb hby own_daa3_6) rfl (l' := #[.val (.ref oa), .val (.int ec), .val (.int (0 : Int32))]) rfl k) ?_
  show own_Fin _ _ _ _ _ _ _ (T1.setTop (mkF m 7 #[.val (.ref oa), .val (.int ec), .val (.int (0 : Int32))] []))
  have hloop : ∀ (kk : Nat) (ia : Int32) (TL : State) (LL : List Loc) (XL : Stand p l e ({ frames := 2, cells := 0, slots := 0, locals := 25 } : Room) s m #[(.ref oa)] below meth c TL LL 0 0) (NL : Fr n0 LL) (eL : TL.heap = h0) (hi : ¬ ia < 0) (ht : ia.toInt + (kk : Int) = ec.toInt) (hp : ∀ x ∈ LB.take ia.toNatClampNeg, ¬ x < 0), own_Fin p e below s (own_Q_aa3 Z oa ob kb LB oe ke ea eb ec h0 n0) ({ frames := 2, cells := 0, slots := 0, locals := 25 } : Room).cells ({ frames := 2, cells := 0, slots := 0, locals := 25 } : Room).slots (TL.setTop (mkF m 7 #[.val (.ref oa), .val (.int ec), .val (.int ia)] [])) := by
    intro kk
    induction kk with
    | zero =>
      intro ia TL LL XL NL eL hi ht hp
      refine own_Fin.go (fun t k => XS.iloadN XL.here hx rfl (hb hby own_daa3_7) rfl k) ?_
      show own_Fin _ _ _ _ _ _ _ (TL.setTop (mkF m 8 #[.val (.ref oa), .val (.int ec), .val (.int ia)] [(.int ia)]))
      refine own_Fin.go (fun t k => XS.iloadN XL.here hx rfl (hb hby own_daa3_8) rfl k) ?_
      show own_Fin _ _ _ _ _ _ _ (TL.setTop (mkF m 9 #[.val (.ref oa), .val (.int ec), .val (.int ia)] [(.int ec), (.int ia)]))
      have hc9 : ¬ (ia < ec) := by rw [Int32.lt_iff_toInt_lt]; omega
      refine own_Fin.go (fun t k => XS.icmpYes XL.here hx rfl (pc0 := 9) (pc' := 29) rfl (hb hby own_daa3_9) rfl (Jvm.Free.XT.ii_ge_t hc9) (by decide) (by decide) k) ?_
      show own_Fin _ _ _ _ _ _ _ (TL.setTop (mkF m 29 #[.val (.ref oa), .val (.int ec), .val (.int ia)] []))
      refine own_Fin.go (fun t k => XS.iconst XL.here hx rfl (hb hby own_daa3_29) k) ?_
      show own_Fin _ _ _ _ _ _ _ (TL.setTop (mkF m 30 #[.val (.ref oa), .val (.int ec), .val (.int ia)] [(.int (1 : Int32))]))
      refine own_retN XL hx (t := .boolean) (w := (1 : Int32)) Bd.returns (by simp) (hb hby own_daa3_30) Bd.notSynchronized rfl (by decide) (by decide) ?_
      rw [eL]
      exact ⟨congrArg (fun z => some (Value.int z)) (own_all1 rfl (by have q : ia = ec := Int32.toInt_inj.mp (by omega); rw [← q]; exact hp)).symm, NL, rfl⟩
    | succ kk ih =>
      intro ia TL LL XL NL eL hi ht hp
      refine own_Fin.go (fun t k => XS.iloadN XL.here hx rfl (hb hby own_daa3_7) rfl k) ?_
      show own_Fin _ _ _ _ _ _ _ (TL.setTop (mkF m 8 #[.val (.ref oa), .val (.int ec), .val (.int ia)] [(.int ia)]))
      refine own_Fin.go (fun t k => XS.iloadN XL.here hx rfl (hb hby own_daa3_8) rfl k) ?_
      show own_Fin _ _ _ _ _ _ _ (TL.setTop (mkF m 9 #[.val (.ref oa), .val (.int ec), .val (.int ia)] [(.int ec), (.int ia)]))
      have hc9 : ia < ec := by rw [Int32.lt_iff_toInt_lt]; omega
      refine own_Fin.go (fun t k => XS.icmpNo XL.here hx rfl (hb hby own_daa3_9) rfl (Jvm.Free.XT.ii_ge_f hc9) k) ?_
      show own_Fin _ _ _ _ _ _ _ (TL.setTop (mkF m 12 #[.val (.ref oa), .val (.int ec), .val (.int ia)] []))
      refine own_Fin.go (fun t k => XS.aloadN XL.here hx rfl (hb hby own_daa3_12) rfl rfl k) ?_
      show own_Fin _ _ _ _ _ _ _ (TL.setTop (mkF m 13 #[.val (.ref oa), .val (.int ec), .val (.int ia)] [(.ref oa)]))
      obtain ⟨T2, X2, e2, st2⟩ := getF XL hx hZ hown (host := "") (Or.inl (hw _ (List.mem_of_getElem? (i := 10) rfl))) Via.refl eL F_oa_bytes (g := (mkF m 13 #[.val (.ref oa), .val (.int ec), .val (.int ia)] [(.ref oa)])) rfl rfl (hb hby own_daa3_13)
      refine own_Fin.go st2 ?_
      show own_Fin _ _ _ _ _ _ _ (T2.setTop (mkF m 16 #[.val (.ref oa), .val (.int ec), .val (.int ia)] [(.ref ob)]))
      refine own_Fin.go (fun t k => XS.iloadN X2.here hx rfl (hb hby own_daa3_16) rfl k) ?_
      show own_Fin _ _ _ _ _ _ _ (T2.setTop (mkF m 17 #[.val (.ref oa), .val (.int ec), .val (.int ia)] [(.int ia), (.ref ob)]))
      obtain ⟨cl3, Ar3, q3, S3, N3l, H3, G3⟩ := (id V_ob)
      have hin3 : ¬ (ia < 0 ∨ cl3.slots.size ≤ (ia).toNatClampNeg) := inb_of S3 ⟨hi, by have q1 := hok.2; have e : (1024 : Int32).toInt = 1024 := rfl; rw [Int32.lt_iff_toInt_lt]; omega⟩
      have hat3 : cl3.slots[(ia).toNatClampNeg]? = some (.int (LB.getD ia.toNatClampNeg 0)) := Has.at H3 hin3 (own_mapD LB _)
      refine own_Fin.go (fun t k => X2.baloadBytes hx (j := ia) (v := (.int (LB.getD ia.toNatClampNeg 0))) (by rw [e2]; exact Ar3.1) (State.isArrayOf_alike hZ.alike Ar3.2.1) Ar3.2.2 hin3 hat3 (g := (mkF m 17 #[.val (.ref oa), .val (.int ec), .val (.int ia)] [(.int ia), (.ref ob)])) rfl rfl (hb hby own_daa3_17) t k) ?_
      show own_Fin _ _ _ _ _ _ _ (T2.setTop (mkF m 18 #[.val (.ref oa), .val (.int ec), .val (.int ia)] [(.int (LB.getD ia.toNatClampNeg 0))]))
      by_cases hc18 : (LB.getD ia.toNatClampNeg 0) < (0 : Int32)
      · refine own_Fin.go (fun t k => XS.ifNo X2.here hx rfl (hb hby own_daa3_18) rfl (Jvm.Free.XT.i0_ge_f hc18) k) ?_
        show own_Fin _ _ _ _ _ _ _ (T2.setTop (mkF m 21 #[.val (.ref oa), .val (.int ec), .val (.int ia)] []))
        refine own_Fin.go (fun t k => XS.iconst X2.here hx rfl (hb hby own_daa3_21) k) ?_
        show own_Fin _ _ _ _ _ _ _ (T2.setTop (mkF m 22 #[.val (.ref oa), .val (.int ec), .val (.int ia)] [(.int (0 : Int32))]))
        refine own_retN X2 hx (t := .boolean) (w := (0 : Int32)) Bd.returns (by simp) (hb hby own_daa3_22) Bd.notSynchronized rfl (by decide) (by decide) ?_
        rw [e2]
        exact ⟨congrArg (fun z => some (Value.int z)) (own_seen hL hi hc9 (by have q1 := hok.2; omega) hc18).symm, NL, rfl⟩
      · refine own_Fin.go (fun t k => XS.ifYes X2.here hx rfl (pc0 := 18) (pc' := 23) rfl (hb hby own_daa3_18) rfl (Jvm.Free.XT.i0_ge_t hc18) (by decide) (by decide) k) ?_
        show own_Fin _ _ _ _ _ _ _ (T2.setTop (mkF m 23 #[.val (.ref oa), .val (.int ec), .val (.int ia)] []))
        refine own_Fin.go (fun t k => XS.iinc X2.here hx rfl (hb hby own_daa3_23) rfl (l' := #[.val (.ref oa), .val (.int ec), .val (.int (ia + (1 : Int32)))]) rfl k) ?_
        show own_Fin _ _ _ _ _ _ _ (T2.setTop (mkF m 26 #[.val (.ref oa), .val (.int ec), .val (.int (ia + (1 : Int32)))] []))
        refine own_Fin.go (fun t k => XS.goto X2.here hx rfl (pc0 := 26) (pc' := 7) rfl (hb hby own_daa3_26) (by decide) (by decide) k) ?_
        show own_Fin _ _ _ _ _ _ _ (T2.setTop (mkF m 7 #[.val (.ref oa), .val (.int ec), .val (.int (ia + (1 : Int32)))] []))
        exact ih (ia + (1 : Int32)) T2 _ X2 NL e2 (own_inc hi ht).1 (own_inc hi ht).2 (own_more hL hi (by have q1 := hok.2; omega) hp hc18)
  exact hloop ec.toInt.toNat (0 : Int32) T1 _ X1 N1 e1 (by decide) (by have q := own_nn hok.1; have e0 : (0 : Int32).toInt = 0 := rfl; omega) (by intro x hx; exact nomatch hx)
theorem own_dhit_0 : decode method_2_code 0 = .ok (.iload_n 1, 1) := by decide +kernel
theorem own_dhit_1 : decode method_2_code 1 = .ok (.iload_n 2, 1) := by decide +kernel
theorem own_dhit_2 : decode method_2_code 2 = .ok (.if_icmp .lt 20, 3) := by decide +kernel
theorem own_dhit_5 : decode method_2_code 5 = .ok (.iload_n 1, 1) := by decide +kernel
theorem own_dhit_6 : decode method_2_code 6 = .ok (.iload_n 2, 1) := by decide +kernel
theorem own_dhit_7 : decode method_2_code 7 = .ok (.iload_n 3, 1) := by decide +kernel
theorem own_dhit_8 : decode method_2_code 8 = .ok (.iadd, 1) := by decide +kernel
theorem own_dhit_9 : decode method_2_code 9 = .ok (.if_icmp .ge 13, 3) := by decide +kernel
theorem own_dhit_12 : decode method_2_code 12 = .ok (.aload_n 0, 1) := by decide +kernel
theorem own_dhit_13 : decode method_2_code 13 = .ok (.iload_n 1, 1) := by decide +kernel
theorem own_dhit_14 : decode method_2_code 14 = .ok (.baload, 1) := by decide +kernel
theorem own_dhit_15 : decode method_2_code 15 = .ok (.ifCond .ge 7, 3) := by decide +kernel
theorem own_dhit_18 : decode method_2_code 18 = .ok (.iconst 1, 1) := by decide +kernel
theorem own_dhit_19 : decode method_2_code 19 = .ok (.goto 4, 3) := by decide +kernel
theorem own_dhit_22 : decode method_2_code 22 = .ok (.iconst 0, 1) := by decide +kernel
theorem own_dhit_23 : decode method_2_code 23 = .ok (.ireturn, 1) := by decide +kernel
theorem own_pn1 : plainName "com/example/wardkeeper/wardkeeper/hl7/LinesAllAsciiPinLaw" = true := by first | (simp [plainName, overriddenIn]; done) | decide +kernel
theorem own_ef_hit (m : MethodId) (ra : Addr) (vi : Int32) (vb : Int32) (vc : Int32) : entryFrame m #[(.ref ra), (.int vi), (.int vb), (.int vc)] 4 = mkF m 0 #[.val (.ref ra), .val (.int vi), .val (.int vb), .val (.int vc)] [] := by first | (simp [entryFrame, mkF, argsToLocals, Value.category]; done) | rfl
def own_Q_hit (Z : State) (ra : Addr) (vi : Int32) (vb : Int32) (vc : Int32) (ks : ClassId) (LS : List Int32) (h0 : Heap) (n0 : Nat) (v : Option Value) (h : Heap) (L : List Loc) : Prop := v = some (.int (own_hit LS vi vb vc)) ∧ Fr n0 L ∧ h = h0
set_option maxRecDepth 65536 in
set_option maxHeartbeats 40000000 in
theorem own_rm_hit (l : Launch) (Z : State) (a0 : Array Value) (hw : ∀ d ∈ tables_1, d.before a0 Z = true) (ws : List Jvm.Cond) (ra : Addr) (vi : Int32) (vb : Int32) (vc : Int32) (ks : ClassId) (LS : List Int32) (h0 : Heap) (n0 : Nat) (Z0 : n0 ≤ h0.size) (V_ra : Arv Z h0 ra ks .byte (8 : Int32) (LS.map Value.int) (.int (0 : Int32))) (h1 : ¬ vi < 0) (h2 : vi < (8 : Int32)) :
    MetFree l (⟨"com/example/wardkeeper/wardkeeper/hl7/LinesAllAsciiPinLaw", "hit", "([BIII)Z"⟩ : MethodName) (head1 (Jvm.Cond.code (⟨"com/example/wardkeeper/wardkeeper/hl7/LinesAllAsciiPinLaw", "hit", "([BIII)Z"⟩ : MethodName) method_2_code 4 (some .boolean) :: ws) ({ frames := 0, cells := 0, slots := 0, locals := 0 } : Room)) (fun a U => a = #[(.ref ra), (.int vi), (.int vb), (.int vc)] ∧ Z.Warmed39 U.vm ∧ U.heap = h0) (fun _ _ _ _ _ => True) (fun _ U o U' => ∃ v L, o = .returned v ∧ own_Q_hit Z ra vi vb vc ks LS h0 n0 v U'.heap L ∧ FrameEnd U o U' L ({ frames := 0, cells := 0, slots := 0, locals := 0 } : Room).cells ({ frames := 0, cells := 0, slots := 0, locals := 0 } : Room).slots) := by
  refine MetFree.of_bodySF (plainFor_of_name own_pn1) hisR ?_
  intro p e s m args below meth c s₁ Bd hml0 hP hK
  obtain ⟨rfl, hZ, hh⟩ := hP
  have hx := Bd.exec
  have hby := Bd.bytes
  have hml : c.maxLocals = 4 := hml0
  have hown : s.vm.findClass "com/example/wardkeeper/wardkeeper/hl7/LinesAllAsciiPinLaw" = some m.cls := findClass_of_methodNamed Bd.named
  have hnm := (name_of_methodNamed Bd.named Bd.method).1
  have X0 : Stand p l e ({ frames := 0, cells := 0, slots := 0, locals := 0 } : Room) s m #[(.ref ra), (.int vi), (.int vb), (.int vc)] below meth c s₁ [] 0 0 := Stand.of_body Bd
  have e0 : s₁.heap = h0 := by rw [← hh, Bd.state]; rfl
  have N0 := Fr.nil n0
  show own_Fin p e below s (own_Q_hit Z ra vi vb vc ks LS h0 n0) ({ frames := 0, cells := 0, slots := 0, locals := 0 } : Room).cells ({ frames := 0, cells := 0, slots := 0, locals := 0 } : Room).slots (s₁.setTop (entryFrame m #[(.ref ra), (.int vi), (.int vb), (.int vc)] 4))
  refine own_Fin.go (fun t k => castTop (own_ef_hit m ra vi vb vc) k) ?_
  refine own_Fin.go (fun t k => XS.iloadN X0.here hx rfl (hb hby own_dhit_0) rfl k) ?_
  show own_Fin _ _ _ _ _ _ _ (s₁.setTop (mkF m 1 #[.val (.ref ra), .val (.int vi), .val (.int vb), .val (.int vc)] [(.int vi)]))
  refine own_Fin.go (fun t k => XS.iloadN X0.here hx rfl (hb hby own_dhit_1) rfl k) ?_
  show own_Fin _ _ _ _ _ _ _ (s₁.setTop (mkF m 2 #[.val (.ref ra), .val (.int vi), .val (.int vb), .val (.int vc)] [(.int vb), (.int vi)]))
  by_cases hc2 : vi < vb
  · refine own_Fin.go (fun t k => XS.icmpYes X0.here hx rfl (pc0 := 2) (pc' := 22) rfl (hb hby own_dhit_2) rfl (Jvm.Free.XT.ii_lt_t hc2) (by decide) (by decide) k) ?_
    show own_Fin _ _ _ _ _ _ _ (s₁.setTop (mkF m 22 #[.val (.ref ra), .val (.int vi), .val (.int vb), .val (.int vc)] []))
    refine own_Fin.go (fun t k => XS.iconst X0.here hx rfl (hb hby own_dhit_22) k) ?_
    show own_Fin _ _ _ _ _ _ _ (s₁.setTop (mkF m 23 #[.val (.ref ra), .val (.int vi), .val (.int vb), .val (.int vc)] [(.int (0 : Int32))]))
    refine own_retN X0 hx (t := .boolean) (w := (0 : Int32)) Bd.returns (by simp) (hb hby own_dhit_23) Bd.notSynchronized rfl (by decide) (by decide) ?_
    rw [e0]
    exact ⟨by simp only [own_hit, if_pos hc2], N0, rfl⟩
  · refine own_Fin.go (fun t k => XS.icmpNo X0.here hx rfl (hb hby own_dhit_2) rfl (Jvm.Free.XT.ii_lt_f hc2) k) ?_
    show own_Fin _ _ _ _ _ _ _ (s₁.setTop (mkF m 5 #[.val (.ref ra), .val (.int vi), .val (.int vb), .val (.int vc)] []))
    refine own_Fin.go (fun t k => XS.iloadN X0.here hx rfl (hb hby own_dhit_5) rfl k) ?_
    show own_Fin _ _ _ _ _ _ _ (s₁.setTop (mkF m 6 #[.val (.ref ra), .val (.int vi), .val (.int vb), .val (.int vc)] [(.int vi)]))
    refine own_Fin.go (fun t k => XS.iloadN X0.here hx rfl (hb hby own_dhit_6) rfl k) ?_
    show own_Fin _ _ _ _ _ _ _ (s₁.setTop (mkF m 7 #[.val (.ref ra), .val (.int vi), .val (.int vb), .val (.int vc)] [(.int vb), (.int vi)]))
    refine own_Fin.go (fun t k => XS.iloadN X0.here hx rfl (hb hby own_dhit_7) rfl k) ?_
    show own_Fin _ _ _ _ _ _ _ (s₁.setTop (mkF m 8 #[.val (.ref ra), .val (.int vi), .val (.int vb), .val (.int vc)] [(.int vc), (.int vb), (.int vi)]))
    refine own_Fin.go (fun t k => XS.iadd X0.here hx rfl (hb hby own_dhit_8) rfl k) ?_
    show own_Fin _ _ _ _ _ _ _ (s₁.setTop (mkF m 9 #[.val (.ref ra), .val (.int vi), .val (.int vb), .val (.int vc)] [(.int (vb + vc)), (.int vi)]))
    by_cases hc9 : vi < (vb + vc)
    · refine own_Fin.go (fun t k => XS.icmpNo X0.here hx rfl (hb hby own_dhit_9) rfl (Jvm.Free.XT.ii_ge_f hc9) k) ?_
      show own_Fin _ _ _ _ _ _ _ (s₁.setTop (mkF m 12 #[.val (.ref ra), .val (.int vi), .val (.int vb), .val (.int vc)] []))
      refine own_Fin.go (fun t k => XS.aloadN X0.here hx rfl (hb hby own_dhit_12) rfl rfl k) ?_
      show own_Fin _ _ _ _ _ _ _ (s₁.setTop (mkF m 13 #[.val (.ref ra), .val (.int vi), .val (.int vb), .val (.int vc)] [(.ref ra)]))
      refine own_Fin.go (fun t k => XS.iloadN X0.here hx rfl (hb hby own_dhit_13) rfl k) ?_
      show own_Fin _ _ _ _ _ _ _ (s₁.setTop (mkF m 14 #[.val (.ref ra), .val (.int vi), .val (.int vb), .val (.int vc)] [(.int vi), (.ref ra)]))
      obtain ⟨cl1, Ar1, q1, S1, N1l, H1, G1⟩ := (id V_ra)
      have hin1 : ¬ (vi < 0 ∨ cl1.slots.size ≤ (vi).toNatClampNeg) := inb_of S1 ⟨h1, h2⟩
      have hat1 : cl1.slots[(vi).toNatClampNeg]? = some (.int (LS.getD vi.toNatClampNeg 0)) := Has.at H1 hin1 (own_mapD LS _)
      refine own_Fin.go (fun t k => X0.baloadBytes hx (j := vi) (v := (.int (LS.getD vi.toNatClampNeg 0))) (by rw [e0]; exact Ar1.1) (State.isArrayOf_alike hZ.alike Ar1.2.1) Ar1.2.2 hin1 hat1 (g := (mkF m 14 #[.val (.ref ra), .val (.int vi), .val (.int vb), .val (.int vc)] [(.int vi), (.ref ra)])) rfl rfl (hb hby own_dhit_14) t k) ?_
      show own_Fin _ _ _ _ _ _ _ (s₁.setTop (mkF m 15 #[.val (.ref ra), .val (.int vi), .val (.int vb), .val (.int vc)] [(.int (LS.getD vi.toNatClampNeg 0))]))
      by_cases hc15 : (LS.getD vi.toNatClampNeg 0) < (0 : Int32)
      · refine own_Fin.go (fun t k => XS.ifNo X0.here hx rfl (hb hby own_dhit_15) rfl (Jvm.Free.XT.i0_ge_f hc15) k) ?_
        show own_Fin _ _ _ _ _ _ _ (s₁.setTop (mkF m 18 #[.val (.ref ra), .val (.int vi), .val (.int vb), .val (.int vc)] []))
        refine own_Fin.go (fun t k => XS.iconst X0.here hx rfl (hb hby own_dhit_18) k) ?_
        show own_Fin _ _ _ _ _ _ _ (s₁.setTop (mkF m 19 #[.val (.ref ra), .val (.int vi), .val (.int vb), .val (.int vc)] [(.int (1 : Int32))]))
        refine own_Fin.go (fun t k => XS.goto X0.here hx rfl (pc0 := 19) (pc' := 23) rfl (hb hby own_dhit_19) (by decide) (by decide) k) ?_
        show own_Fin _ _ _ _ _ _ _ (s₁.setTop (mkF m 23 #[.val (.ref ra), .val (.int vi), .val (.int vb), .val (.int vc)] [(.int (1 : Int32))]))
        refine own_retN X0 hx (t := .boolean) (w := (1 : Int32)) Bd.returns (by simp) (hb hby own_dhit_23) Bd.notSynchronized rfl (by decide) (by decide) ?_
        rw [e0]
        exact ⟨by simp only [own_hit, if_neg hc2, if_pos hc9, if_pos hc15], N0, rfl⟩
      · refine own_Fin.go (fun t k => XS.ifYes X0.here hx rfl (pc0 := 15) (pc' := 22) rfl (hb hby own_dhit_15) rfl (Jvm.Free.XT.i0_ge_t hc15) (by decide) (by decide) k) ?_
        show own_Fin _ _ _ _ _ _ _ (s₁.setTop (mkF m 22 #[.val (.ref ra), .val (.int vi), .val (.int vb), .val (.int vc)] []))
        refine own_Fin.go (fun t k => XS.iconst X0.here hx rfl (hb hby own_dhit_22) k) ?_
        show own_Fin _ _ _ _ _ _ _ (s₁.setTop (mkF m 23 #[.val (.ref ra), .val (.int vi), .val (.int vb), .val (.int vc)] [(.int (0 : Int32))]))
        refine own_retN X0 hx (t := .boolean) (w := (0 : Int32)) Bd.returns (by simp) (hb hby own_dhit_23) Bd.notSynchronized rfl (by decide) (by decide) ?_
        rw [e0]
        exact ⟨by simp only [own_hit, if_neg hc2, if_pos hc9, if_neg hc15], N0, rfl⟩
    · refine own_Fin.go (fun t k => XS.icmpYes X0.here hx rfl (pc0 := 9) (pc' := 22) rfl (hb hby own_dhit_9) rfl (Jvm.Free.XT.ii_ge_t hc9) (by decide) (by decide) k) ?_
      show own_Fin _ _ _ _ _ _ _ (s₁.setTop (mkF m 22 #[.val (.ref ra), .val (.int vi), .val (.int vb), .val (.int vc)] []))
      refine own_Fin.go (fun t k => XS.iconst X0.here hx rfl (hb hby own_dhit_22) k) ?_
      show own_Fin _ _ _ _ _ _ _ (s₁.setTop (mkF m 23 #[.val (.ref ra), .val (.int vi), .val (.int vb), .val (.int vc)] [(.int (0 : Int32))]))
      refine own_retN X0 hx (t := .boolean) (w := (0 : Int32)) Bd.returns (by simp) (hb hby own_dhit_23) Bd.notSynchronized rfl (by decide) (by decide) ?_
      rw [e0]
      exact ⟨by simp only [own_hit, if_neg hc2, if_neg hc9], N0, rfl⟩
theorem own_pd2 : parseMethodDescriptor "([BIII)Z" = some ⟨[(.array .byte), .int, .int, .int], some .boolean⟩ := by decide +kernel
theorem own_dbad_0 : decode method_3_code 0 = .ok (.aload_n 0, 1) := by decide +kernel
theorem own_dbad_1 : decode method_3_code 1 = .ok (.iconst 0, 1) := by decide +kernel
theorem own_dbad_2 : decode method_3_code 2 = .ok (.iload_n 1, 1) := by decide +kernel
theorem own_dbad_3 : decode method_3_code 3 = .ok (.iload_n 2, 1) := by decide +kernel
theorem own_dbad_4 : decode method_3_code 4 = .ok (.invokestatic 7, 3) := by decide +kernel
theorem own_dbad_7 : decode method_3_code 7 = .ok (.ifCond .ne 75, 3) := by decide +kernel
theorem own_dbad_10 : decode method_3_code 10 = .ok (.aload_n 0, 1) := by decide +kernel
theorem own_dbad_11 : decode method_3_code 11 = .ok (.iconst 1, 1) := by decide +kernel
theorem own_dbad_12 : decode method_3_code 12 = .ok (.iload_n 1, 1) := by decide +kernel
theorem own_dbad_13 : decode method_3_code 13 = .ok (.iload_n 2, 1) := by decide +kernel
theorem own_dbad_14 : decode method_3_code 14 = .ok (.invokestatic 7, 3) := by decide +kernel
theorem own_dbad_17 : decode method_3_code 17 = .ok (.ifCond .ne 65, 3) := by decide +kernel
theorem own_dbad_20 : decode method_3_code 20 = .ok (.aload_n 0, 1) := by decide +kernel
theorem own_dbad_21 : decode method_3_code 21 = .ok (.iconst 2, 1) := by decide +kernel
theorem own_dbad_22 : decode method_3_code 22 = .ok (.iload_n 1, 1) := by decide +kernel
theorem own_dbad_23 : decode method_3_code 23 = .ok (.iload_n 2, 1) := by decide +kernel
theorem own_dbad_24 : decode method_3_code 24 = .ok (.invokestatic 7, 3) := by decide +kernel
theorem own_dbad_27 : decode method_3_code 27 = .ok (.ifCond .ne 55, 3) := by decide +kernel
theorem own_dbad_30 : decode method_3_code 30 = .ok (.aload_n 0, 1) := by decide +kernel
theorem own_dbad_31 : decode method_3_code 31 = .ok (.iconst 3, 1) := by decide +kernel
theorem own_dbad_32 : decode method_3_code 32 = .ok (.iload_n 1, 1) := by decide +kernel
theorem own_dbad_33 : decode method_3_code 33 = .ok (.iload_n 2, 1) := by decide +kernel
theorem own_dbad_34 : decode method_3_code 34 = .ok (.invokestatic 7, 3) := by decide +kernel
theorem own_dbad_37 : decode method_3_code 37 = .ok (.ifCond .ne 45, 3) := by decide +kernel
theorem own_dbad_40 : decode method_3_code 40 = .ok (.aload_n 0, 1) := by decide +kernel
theorem own_dbad_41 : decode method_3_code 41 = .ok (.iconst 4, 1) := by decide +kernel
theorem own_dbad_42 : decode method_3_code 42 = .ok (.iload_n 1, 1) := by decide +kernel
theorem own_dbad_43 : decode method_3_code 43 = .ok (.iload_n 2, 1) := by decide +kernel
theorem own_dbad_44 : decode method_3_code 44 = .ok (.invokestatic 7, 3) := by decide +kernel
theorem own_dbad_47 : decode method_3_code 47 = .ok (.ifCond .ne 35, 3) := by decide +kernel
theorem own_dbad_50 : decode method_3_code 50 = .ok (.aload_n 0, 1) := by decide +kernel
theorem own_dbad_51 : decode method_3_code 51 = .ok (.iconst 5, 1) := by decide +kernel
theorem own_dbad_52 : decode method_3_code 52 = .ok (.iload_n 1, 1) := by decide +kernel
theorem own_dbad_53 : decode method_3_code 53 = .ok (.iload_n 2, 1) := by decide +kernel
theorem own_dbad_54 : decode method_3_code 54 = .ok (.invokestatic 7, 3) := by decide +kernel
theorem own_dbad_57 : decode method_3_code 57 = .ok (.ifCond .ne 25, 3) := by decide +kernel
theorem own_dbad_60 : decode method_3_code 60 = .ok (.aload_n 0, 1) := by decide +kernel
theorem own_dbad_61 : decode method_3_code 61 = .ok (.bipush 6, 2) := by decide +kernel
theorem own_dbad_63 : decode method_3_code 63 = .ok (.iload_n 1, 1) := by decide +kernel
theorem own_dbad_64 : decode method_3_code 64 = .ok (.iload_n 2, 1) := by decide +kernel
theorem own_dbad_65 : decode method_3_code 65 = .ok (.invokestatic 7, 3) := by decide +kernel
theorem own_dbad_68 : decode method_3_code 68 = .ok (.ifCond .ne 14, 3) := by decide +kernel
theorem own_dbad_71 : decode method_3_code 71 = .ok (.aload_n 0, 1) := by decide +kernel
theorem own_dbad_72 : decode method_3_code 72 = .ok (.bipush 7, 2) := by decide +kernel
theorem own_dbad_74 : decode method_3_code 74 = .ok (.iload_n 1, 1) := by decide +kernel
theorem own_dbad_75 : decode method_3_code 75 = .ok (.iload_n 2, 1) := by decide +kernel
theorem own_dbad_76 : decode method_3_code 76 = .ok (.invokestatic 7, 3) := by decide +kernel
theorem own_dbad_79 : decode method_3_code 79 = .ok (.ifCond .eq 7, 3) := by decide +kernel
theorem own_dbad_82 : decode method_3_code 82 = .ok (.iconst 1, 1) := by decide +kernel
theorem own_dbad_83 : decode method_3_code 83 = .ok (.goto 4, 3) := by decide +kernel
theorem own_dbad_86 : decode method_3_code 86 = .ok (.iconst 0, 1) := by decide +kernel
theorem own_dbad_87 : decode method_3_code 87 = .ok (.ireturn, 1) := by decide +kernel
theorem own_ef_bad (m : MethodId) (ra : Addr) (vb : Int32) (vc : Int32) : entryFrame m #[(.ref ra), (.int vb), (.int vc)] 3 = mkF m 0 #[.val (.ref ra), .val (.int vb), .val (.int vc)] [] := by first | (simp [entryFrame, mkF, argsToLocals, Value.category]; done) | rfl
def own_Q_bad (Z : State) (ra : Addr) (vb : Int32) (vc : Int32) (ks : ClassId) (LS : List Int32) (h0 : Heap) (n0 : Nat) (v : Option Value) (h : Heap) (L : List Loc) : Prop := v = some (.int (own_bad LS vb vc)) ∧ Fr n0 L ∧ h = h0
set_option maxRecDepth 65536 in
set_option maxHeartbeats 40000000 in
theorem own_rm_bad (l : Launch) (Z : State) (a0 : Array Value) (hw : ∀ d ∈ tables_1, d.before a0 Z = true) (ws : List Jvm.Cond) (ra : Addr) (vb : Int32) (vc : Int32) (ks : ClassId) (LS : List Int32) (h0 : Heap) (n0 : Nat) (Z0 : n0 ≤ h0.size) (V_ra : Arv Z h0 ra ks .byte (8 : Int32) (LS.map Value.int) (.int (0 : Int32))) :
    MetFree l (⟨"com/example/wardkeeper/wardkeeper/hl7/LinesAllAsciiPinLaw", "bad", "([BII)Z"⟩ : MethodName) (head1 (Jvm.Cond.code (⟨"com/example/wardkeeper/wardkeeper/hl7/LinesAllAsciiPinLaw", "bad", "([BII)Z"⟩ : MethodName) method_3_code 3 (some .boolean) :: ws) ({ frames := 1, cells := 0, slots := 0, locals := 15 } : Room)) (fun a U => a = #[(.ref ra), (.int vb), (.int vc)] ∧ Z.Warmed39 U.vm ∧ U.heap = h0) (fun _ _ _ _ _ => True) (fun _ U o U' => ∃ v L, o = .returned v ∧ own_Q_bad Z ra vb vc ks LS h0 n0 v U'.heap L ∧ FrameEnd U o U' L ({ frames := 1, cells := 0, slots := 0, locals := 15 } : Room).cells ({ frames := 1, cells := 0, slots := 0, locals := 15 } : Room).slots) := by
  refine MetFree.of_bodySF (plainFor_of_name own_pn1) hisR ?_
  intro p e s m args below meth c s₁ Bd hml0 hP hK
  obtain ⟨rfl, hZ, hh⟩ := hP
  have hx := Bd.exec
  have hby := Bd.bytes
  have hml : c.maxLocals = 3 := hml0
  have hown : s.vm.findClass "com/example/wardkeeper/wardkeeper/hl7/LinesAllAsciiPinLaw" = some m.cls := findClass_of_methodNamed Bd.named
  have hnm := (name_of_methodNamed Bd.named Bd.method).1
  have X0 : Stand p l e ({ frames := 1, cells := 0, slots := 0, locals := 15 } : Room) s m #[(.ref ra), (.int vb), (.int vc)] below meth c s₁ [] 0 0 := Stand.of_body Bd
  have e0 : s₁.heap = h0 := by rw [← hh, Bd.state]; rfl
  have N0 := Fr.nil n0
  show own_Fin p e below s (own_Q_bad Z ra vb vc ks LS h0 n0) ({ frames := 1, cells := 0, slots := 0, locals := 15 } : Room).cells ({ frames := 1, cells := 0, slots := 0, locals := 15 } : Room).slots (s₁.setTop (entryFrame m #[(.ref ra), (.int vb), (.int vc)] 3))
  refine own_Fin.go (fun t k => castTop (own_ef_bad m ra vb vc) k) ?_
  refine own_Fin.go (fun t k => XS.aloadN X0.here hx rfl (hb hby own_dbad_0) rfl rfl k) ?_
  show own_Fin _ _ _ _ _ _ _ (s₁.setTop (mkF m 1 #[.val (.ref ra), .val (.int vb), .val (.int vc)] [(.ref ra)]))
  refine own_Fin.go (fun t k => XS.iconst X0.here hx rfl (hb hby own_dbad_1) k) ?_
  show own_Fin _ _ _ _ _ _ _ (s₁.setTop (mkF m 2 #[.val (.ref ra), .val (.int vb), .val (.int vc)] [(.int (0 : Int32)), (.ref ra)]))
  refine own_Fin.go (fun t k => XS.iloadN X0.here hx rfl (hb hby own_dbad_2) rfl k) ?_
  show own_Fin _ _ _ _ _ _ _ (s₁.setTop (mkF m 3 #[.val (.ref ra), .val (.int vb), .val (.int vc)] [(.int vb), (.int (0 : Int32)), (.ref ra)]))
  refine own_Fin.go (fun t k => XS.iloadN X0.here hx rfl (hb hby own_dbad_3) rfl k) ?_
  show own_Fin _ _ _ _ _ _ _ (s₁.setTop (mkF m 4 #[.val (.ref ra), .val (.int vb), .val (.int vc)] [(.int vc), (.int vb), (.int (0 : Int32)), (.ref ra)]))
  obtain ⟨_, _, ⟨T1, L1, k1, n1⟩, -, X1, ⟨Lc1, hQ1, l1, y1, z1⟩, st1⟩ := Jvm.LawKit.callS X0 hx (y := (⟨"com/example/wardkeeper/wardkeeper/hl7/LinesAllAsciiPinLaw", "hit", "([BIII)Z"⟩ : MethodName)) hown (mvT hZ (hw _ (List.mem_of_getElem? (i := 39) rfl))) (mvT hZ (hw _ (List.mem_of_getElem? (i := 40) rfl))) (mvT hZ (hw _ (List.mem_of_getElem? (i := 37) rfl))) (mvT hZ (hw _ (List.mem_of_getElem? (i := 41) rfl))) (by decide) (backOf (W := 0) (own_rm_hit l Z a0 hw [] ra (0 : Int32) vb vc ks LS h0 n0 Z0 V_ra (by decide) (by decide)) hZ (hw _ (List.mem_of_getElem? (i := 41) rfl)) (hw _ (List.mem_of_getElem? (i := 37) rfl)) (by decide) (by decide)) (g := (mkF m 4 #[.val (.ref ra), .val (.int vb), .val (.int vc)] [(.int vc), (.int vb), (.int (0 : Int32)), (.ref ra)])) rfl (by rw [hml]; rfl) (argsL := [(.ref ra), (.int (0 : Int32)), (.int vb), (.int vc)]) (rest := []) (lenOf own_pd2 rfl) rfl (by show 2 * 0 + _ ≤ _; exact Nat.le_of_eq rfl) (hb hby own_dbad_4) (fun _ _ => ⟨rfl, e0, (by decide : 0 + 0 ≤ _), (by decide : 0 + 0 ≤ _)⟩)
  dsimp only [Pt.U, Pt.locs, Pt.cells, Pt.slots] at X1 l1 y1 z1 st1 hQ1
  subst l1 y1 z1
  obtain ⟨rfl, N1q, e1⟩ := hQ1
  refine own_Fin.go (fun t k => st1 t k) ?_
  have N1 := Fr.app N0 N1q
  show own_Fin _ _ _ _ _ _ _ (T1.setTop (mkF m 7 #[.val (.ref ra), .val (.int vb), .val (.int vc)] [(.int (own_hit LS (0 : Int32) vb vc))]))
  by_cases hc7 : (own_hit LS (0 : Int32) vb vc) = (0 : Int32)
  · refine own_Fin.go (fun t k => XS.ifNo X1.here hx rfl (hb hby own_dbad_7) rfl (Jvm.Free.XT.i0_ne_f hc7) k) ?_
    show own_Fin _ _ _ _ _ _ _ (T1.setTop (mkF m 10 #[.val (.ref ra), .val (.int vb), .val (.int vc)] []))
    refine own_Fin.go (fun t k => XS.aloadN X1.here hx rfl (hb hby own_dbad_10) rfl rfl k) ?_
    show own_Fin _ _ _ _ _ _ _ (T1.setTop (mkF m 11 #[.val (.ref ra), .val (.int vb), .val (.int vc)] [(.ref ra)]))
    refine own_Fin.go (fun t k => XS.iconst X1.here hx rfl (hb hby own_dbad_11) k) ?_
    show own_Fin _ _ _ _ _ _ _ (T1.setTop (mkF m 12 #[.val (.ref ra), .val (.int vb), .val (.int vc)] [(.int (1 : Int32)), (.ref ra)]))
    refine own_Fin.go (fun t k => XS.iloadN X1.here hx rfl (hb hby own_dbad_12) rfl k) ?_
    show own_Fin _ _ _ _ _ _ _ (T1.setTop (mkF m 13 #[.val (.ref ra), .val (.int vb), .val (.int vc)] [(.int vb), (.int (1 : Int32)), (.ref ra)]))
    refine own_Fin.go (fun t k => XS.iloadN X1.here hx rfl (hb hby own_dbad_13) rfl k) ?_
    show own_Fin _ _ _ _ _ _ _ (T1.setTop (mkF m 14 #[.val (.ref ra), .val (.int vb), .val (.int vc)] [(.int vc), (.int vb), (.int (1 : Int32)), (.ref ra)]))
    obtain ⟨_, _, ⟨T2, L2, k2, n2⟩, -, X2, ⟨Lc2, hQ2, l2, y2, z2⟩, st2⟩ := Jvm.LawKit.callS X1 hx (y := (⟨"com/example/wardkeeper/wardkeeper/hl7/LinesAllAsciiPinLaw", "hit", "([BIII)Z"⟩ : MethodName)) hown (mvT hZ (hw _ (List.mem_of_getElem? (i := 39) rfl))) (mvT hZ (hw _ (List.mem_of_getElem? (i := 40) rfl))) (mvT hZ (hw _ (List.mem_of_getElem? (i := 37) rfl))) (mvT hZ (hw _ (List.mem_of_getElem? (i := 41) rfl))) (by decide) (backOf (W := 0) (own_rm_hit l Z a0 hw [] ra (1 : Int32) vb vc ks LS h0 n0 Z0 V_ra (by decide) (by decide)) hZ (hw _ (List.mem_of_getElem? (i := 41) rfl)) (hw _ (List.mem_of_getElem? (i := 37) rfl)) (by decide) (by decide)) (g := (mkF m 14 #[.val (.ref ra), .val (.int vb), .val (.int vc)] [(.int vc), (.int vb), (.int (1 : Int32)), (.ref ra)])) rfl (by rw [hml]; rfl) (argsL := [(.ref ra), (.int (1 : Int32)), (.int vb), (.int vc)]) (rest := []) (lenOf own_pd2 rfl) rfl (by show 2 * 0 + _ ≤ _; exact Nat.le_of_eq rfl) (hb hby own_dbad_14) (fun _ _ => ⟨rfl, e1, (by decide : 0 + 0 ≤ _), (by decide : 0 + 0 ≤ _)⟩)
    dsimp only [Pt.U, Pt.locs, Pt.cells, Pt.slots] at X2 l2 y2 z2 st2 hQ2
    subst l2 y2 z2
    obtain ⟨rfl, N2q, e2⟩ := hQ2
    refine own_Fin.go (fun t k => st2 t k) ?_
    have N2 := Fr.app N1 N2q
    show own_Fin _ _ _ _ _ _ _ (T2.setTop (mkF m 17 #[.val (.ref ra), .val (.int vb), .val (.int vc)] [(.int (own_hit LS (1 : Int32) vb vc))]))
    by_cases hc17 : (own_hit LS (1 : Int32) vb vc) = (0 : Int32)
    · refine own_Fin.go (fun t k => XS.ifNo X2.here hx rfl (hb hby own_dbad_17) rfl (Jvm.Free.XT.i0_ne_f hc17) k) ?_
      show own_Fin _ _ _ _ _ _ _ (T2.setTop (mkF m 20 #[.val (.ref ra), .val (.int vb), .val (.int vc)] []))
      refine own_Fin.go (fun t k => XS.aloadN X2.here hx rfl (hb hby own_dbad_20) rfl rfl k) ?_
      show own_Fin _ _ _ _ _ _ _ (T2.setTop (mkF m 21 #[.val (.ref ra), .val (.int vb), .val (.int vc)] [(.ref ra)]))
      refine own_Fin.go (fun t k => XS.iconst X2.here hx rfl (hb hby own_dbad_21) k) ?_
      show own_Fin _ _ _ _ _ _ _ (T2.setTop (mkF m 22 #[.val (.ref ra), .val (.int vb), .val (.int vc)] [(.int (2 : Int32)), (.ref ra)]))
      refine own_Fin.go (fun t k => XS.iloadN X2.here hx rfl (hb hby own_dbad_22) rfl k) ?_
      show own_Fin _ _ _ _ _ _ _ (T2.setTop (mkF m 23 #[.val (.ref ra), .val (.int vb), .val (.int vc)] [(.int vb), (.int (2 : Int32)), (.ref ra)]))
      refine own_Fin.go (fun t k => XS.iloadN X2.here hx rfl (hb hby own_dbad_23) rfl k) ?_
      show own_Fin _ _ _ _ _ _ _ (T2.setTop (mkF m 24 #[.val (.ref ra), .val (.int vb), .val (.int vc)] [(.int vc), (.int vb), (.int (2 : Int32)), (.ref ra)]))
      obtain ⟨_, _, ⟨T3, L3, k3, n3⟩, -, X3, ⟨Lc3, hQ3, l3, y3, z3⟩, st3⟩ := Jvm.LawKit.callS X2 hx (y := (⟨"com/example/wardkeeper/wardkeeper/hl7/LinesAllAsciiPinLaw", "hit", "([BIII)Z"⟩ : MethodName)) hown (mvT hZ (hw _ (List.mem_of_getElem? (i := 39) rfl))) (mvT hZ (hw _ (List.mem_of_getElem? (i := 40) rfl))) (mvT hZ (hw _ (List.mem_of_getElem? (i := 37) rfl))) (mvT hZ (hw _ (List.mem_of_getElem? (i := 41) rfl))) (by decide) (backOf (W := 0) (own_rm_hit l Z a0 hw [] ra (2 : Int32) vb vc ks LS h0 n0 Z0 V_ra (by decide) (by decide)) hZ (hw _ (List.mem_of_getElem? (i := 41) rfl)) (hw _ (List.mem_of_getElem? (i := 37) rfl)) (by decide) (by decide)) (g := (mkF m 24 #[.val (.ref ra), .val (.int vb), .val (.int vc)] [(.int vc), (.int vb), (.int (2 : Int32)), (.ref ra)])) rfl (by rw [hml]; rfl) (argsL := [(.ref ra), (.int (2 : Int32)), (.int vb), (.int vc)]) (rest := []) (lenOf own_pd2 rfl) rfl (by show 2 * 0 + _ ≤ _; exact Nat.le_of_eq rfl) (hb hby own_dbad_24) (fun _ _ => ⟨rfl, e2, (by decide : 0 + 0 ≤ _), (by decide : 0 + 0 ≤ _)⟩)
      dsimp only [Pt.U, Pt.locs, Pt.cells, Pt.slots] at X3 l3 y3 z3 st3 hQ3
      subst l3 y3 z3
      obtain ⟨rfl, N3q, e3⟩ := hQ3
      refine own_Fin.go (fun t k => st3 t k) ?_
      have N3 := Fr.app N2 N3q
      show own_Fin _ _ _ _ _ _ _ (T3.setTop (mkF m 27 #[.val (.ref ra), .val (.int vb), .val (.int vc)] [(.int (own_hit LS (2 : Int32) vb vc))]))
      by_cases hc27 : (own_hit LS (2 : Int32) vb vc) = (0 : Int32)
      · refine own_Fin.go (fun t k => XS.ifNo X3.here hx rfl (hb hby own_dbad_27) rfl (Jvm.Free.XT.i0_ne_f hc27) k) ?_
        show own_Fin _ _ _ _ _ _ _ (T3.setTop (mkF m 30 #[.val (.ref ra), .val (.int vb), .val (.int vc)] []))
        refine own_Fin.go (fun t k => XS.aloadN X3.here hx rfl (hb hby own_dbad_30) rfl rfl k) ?_
        show own_Fin _ _ _ _ _ _ _ (T3.setTop (mkF m 31 #[.val (.ref ra), .val (.int vb), .val (.int vc)] [(.ref ra)]))
        refine own_Fin.go (fun t k => XS.iconst X3.here hx rfl (hb hby own_dbad_31) k) ?_
        show own_Fin _ _ _ _ _ _ _ (T3.setTop (mkF m 32 #[.val (.ref ra), .val (.int vb), .val (.int vc)] [(.int (3 : Int32)), (.ref ra)]))
        refine own_Fin.go (fun t k => XS.iloadN X3.here hx rfl (hb hby own_dbad_32) rfl k) ?_
        show own_Fin _ _ _ _ _ _ _ (T3.setTop (mkF m 33 #[.val (.ref ra), .val (.int vb), .val (.int vc)] [(.int vb), (.int (3 : Int32)), (.ref ra)]))
        refine own_Fin.go (fun t k => XS.iloadN X3.here hx rfl (hb hby own_dbad_33) rfl k) ?_
        show own_Fin _ _ _ _ _ _ _ (T3.setTop (mkF m 34 #[.val (.ref ra), .val (.int vb), .val (.int vc)] [(.int vc), (.int vb), (.int (3 : Int32)), (.ref ra)]))
        obtain ⟨_, _, ⟨T4, L4, k4, n4⟩, -, X4, ⟨Lc4, hQ4, l4, y4, z4⟩, st4⟩ := Jvm.LawKit.callS X3 hx (y := (⟨"com/example/wardkeeper/wardkeeper/hl7/LinesAllAsciiPinLaw", "hit", "([BIII)Z"⟩ : MethodName)) hown (mvT hZ (hw _ (List.mem_of_getElem? (i := 39) rfl))) (mvT hZ (hw _ (List.mem_of_getElem? (i := 40) rfl))) (mvT hZ (hw _ (List.mem_of_getElem? (i := 37) rfl))) (mvT hZ (hw _ (List.mem_of_getElem? (i := 41) rfl))) (by decide) (backOf (W := 0) (own_rm_hit l Z a0 hw [] ra (3 : Int32) vb vc ks LS h0 n0 Z0 V_ra (by decide) (by decide)) hZ (hw _ (List.mem_of_getElem? (i := 41) rfl)) (hw _ (List.mem_of_getElem? (i := 37) rfl)) (by decide) (by decide)) (g := (mkF m 34 #[.val (.ref ra), .val (.int vb), .val (.int vc)] [(.int vc), (.int vb), (.int (3 : Int32)), (.ref ra)])) rfl (by rw [hml]; rfl) (argsL := [(.ref ra), (.int (3 : Int32)), (.int vb), (.int vc)]) (rest := []) (lenOf own_pd2 rfl) rfl (by show 2 * 0 + _ ≤ _; exact Nat.le_of_eq rfl) (hb hby own_dbad_34) (fun _ _ => ⟨rfl, e3, (by decide : 0 + 0 ≤ _), (by decide : 0 + 0 ≤ _)⟩)
        dsimp only [Pt.U, Pt.locs, Pt.cells, Pt.slots] at X4 l4 y4 z4 st4 hQ4
        subst l4 y4 z4
        obtain ⟨rfl, N4q, e4⟩ := hQ4
        refine own_Fin.go (fun t k => st4 t k) ?_
        have N4 := Fr.app N3 N4q
        show own_Fin _ _ _ _ _ _ _ (T4.setTop (mkF m 37 #[.val (.ref ra), .val (.int vb), .val (.int vc)] [(.int (own_hit LS (3 : Int32) vb vc))]))
        by_cases hc37 : (own_hit LS (3 : Int32) vb vc) = (0 : Int32)
        · refine own_Fin.go (fun t k => XS.ifNo X4.here hx rfl (hb hby own_dbad_37) rfl (Jvm.Free.XT.i0_ne_f hc37) k) ?_
          show own_Fin _ _ _ _ _ _ _ (T4.setTop (mkF m 40 #[.val (.ref ra), .val (.int vb), .val (.int vc)] []))
          refine own_Fin.go (fun t k => XS.aloadN X4.here hx rfl (hb hby own_dbad_40) rfl rfl k) ?_
          show own_Fin _ _ _ _ _ _ _ (T4.setTop (mkF m 41 #[.val (.ref ra), .val (.int vb), .val (.int vc)] [(.ref ra)]))
          refine own_Fin.go (fun t k => XS.iconst X4.here hx rfl (hb hby own_dbad_41) k) ?_
          show own_Fin _ _ _ _ _ _ _ (T4.setTop (mkF m 42 #[.val (.ref ra), .val (.int vb), .val (.int vc)] [(.int (4 : Int32)), (.ref ra)]))
          refine own_Fin.go (fun t k => XS.iloadN X4.here hx rfl (hb hby own_dbad_42) rfl k) ?_
          show own_Fin _ _ _ _ _ _ _ (T4.setTop (mkF m 43 #[.val (.ref ra), .val (.int vb), .val (.int vc)] [(.int vb), (.int (4 : Int32)), (.ref ra)]))
          refine own_Fin.go (fun t k => XS.iloadN X4.here hx rfl (hb hby own_dbad_43) rfl k) ?_
          show own_Fin _ _ _ _ _ _ _ (T4.setTop (mkF m 44 #[.val (.ref ra), .val (.int vb), .val (.int vc)] [(.int vc), (.int vb), (.int (4 : Int32)), (.ref ra)]))
          obtain ⟨_, _, ⟨T5, L5, k5, n5⟩, -, X5, ⟨Lc5, hQ5, l5, y5, z5⟩, st5⟩ := Jvm.LawKit.callS X4 hx (y := (⟨"com/example/wardkeeper/wardkeeper/hl7/LinesAllAsciiPinLaw", "hit", "([BIII)Z"⟩ : MethodName)) hown (mvT hZ (hw _ (List.mem_of_getElem? (i := 39) rfl))) (mvT hZ (hw _ (List.mem_of_getElem? (i := 40) rfl))) (mvT hZ (hw _ (List.mem_of_getElem? (i := 37) rfl))) (mvT hZ (hw _ (List.mem_of_getElem? (i := 41) rfl))) (by decide) (backOf (W := 0) (own_rm_hit l Z a0 hw [] ra (4 : Int32) vb vc ks LS h0 n0 Z0 V_ra (by decide) (by decide)) hZ (hw _ (List.mem_of_getElem? (i := 41) rfl)) (hw _ (List.mem_of_getElem? (i := 37) rfl)) (by decide) (by decide)) (g := (mkF m 44 #[.val (.ref ra), .val (.int vb), .val (.int vc)] [(.int vc), (.int vb), (.int (4 : Int32)), (.ref ra)])) rfl (by rw [hml]; rfl) (argsL := [(.ref ra), (.int (4 : Int32)), (.int vb), (.int vc)]) (rest := []) (lenOf own_pd2 rfl) rfl (by show 2 * 0 + _ ≤ _; exact Nat.le_of_eq rfl) (hb hby own_dbad_44) (fun _ _ => ⟨rfl, e4, (by decide : 0 + 0 ≤ _), (by decide : 0 + 0 ≤ _)⟩)
          dsimp only [Pt.U, Pt.locs, Pt.cells, Pt.slots] at X5 l5 y5 z5 st5 hQ5
          subst l5 y5 z5
          obtain ⟨rfl, N5q, e5⟩ := hQ5
          refine own_Fin.go (fun t k => st5 t k) ?_
          have N5 := Fr.app N4 N5q
          show own_Fin _ _ _ _ _ _ _ (T5.setTop (mkF m 47 #[.val (.ref ra), .val (.int vb), .val (.int vc)] [(.int (own_hit LS (4 : Int32) vb vc))]))
          by_cases hc47 : (own_hit LS (4 : Int32) vb vc) = (0 : Int32)
          · refine own_Fin.go (fun t k => XS.ifNo X5.here hx rfl (hb hby own_dbad_47) rfl (Jvm.Free.XT.i0_ne_f hc47) k) ?_
            show own_Fin _ _ _ _ _ _ _ (T5.setTop (mkF m 50 #[.val (.ref ra), .val (.int vb), .val (.int vc)] []))
            refine own_Fin.go (fun t k => XS.aloadN X5.here hx rfl (hb hby own_dbad_50) rfl rfl k) ?_
            show own_Fin _ _ _ _ _ _ _ (T5.setTop (mkF m 51 #[.val (.ref ra), .val (.int vb), .val (.int vc)] [(.ref ra)]))
            refine own_Fin.go (fun t k => XS.iconst X5.here hx rfl (hb hby own_dbad_51) k) ?_
            show own_Fin _ _ _ _ _ _ _ (T5.setTop (mkF m 52 #[.val (.ref ra), .val (.int vb), .val (.int vc)] [(.int (5 : Int32)), (.ref ra)]))
            refine own_Fin.go (fun t k => XS.iloadN X5.here hx rfl (hb hby own_dbad_52) rfl k) ?_
            show own_Fin _ _ _ _ _ _ _ (T5.setTop (mkF m 53 #[.val (.ref ra), .val (.int vb), .val (.int vc)] [(.int vb), (.int (5 : Int32)), (.ref ra)]))
            refine own_Fin.go (fun t k => XS.iloadN X5.here hx rfl (hb hby own_dbad_53) rfl k) ?_
            show own_Fin _ _ _ _ _ _ _ (T5.setTop (mkF m 54 #[.val (.ref ra), .val (.int vb), .val (.int vc)] [(.int vc), (.int vb), (.int (5 : Int32)), (.ref ra)]))
            obtain ⟨_, _, ⟨T6, L6, k6, n6⟩, -, X6, ⟨Lc6, hQ6, l6, y6, z6⟩, st6⟩ := Jvm.LawKit.callS X5 hx (y := (⟨"com/example/wardkeeper/wardkeeper/hl7/LinesAllAsciiPinLaw", "hit", "([BIII)Z"⟩ : MethodName)) hown (mvT hZ (hw _ (List.mem_of_getElem? (i := 39) rfl))) (mvT hZ (hw _ (List.mem_of_getElem? (i := 40) rfl))) (mvT hZ (hw _ (List.mem_of_getElem? (i := 37) rfl))) (mvT hZ (hw _ (List.mem_of_getElem? (i := 41) rfl))) (by decide) (backOf (W := 0) (own_rm_hit l Z a0 hw [] ra (5 : Int32) vb vc ks LS h0 n0 Z0 V_ra (by decide) (by decide)) hZ (hw _ (List.mem_of_getElem? (i := 41) rfl)) (hw _ (List.mem_of_getElem? (i := 37) rfl)) (by decide) (by decide)) (g := (mkF m 54 #[.val (.ref ra), .val (.int vb), .val (.int vc)] [(.int vc), (.int vb), (.int (5 : Int32)), (.ref ra)])) rfl (by rw [hml]; rfl) (argsL := [(.ref ra), (.int (5 : Int32)), (.int vb), (.int vc)]) (rest := []) (lenOf own_pd2 rfl) rfl (by show 2 * 0 + _ ≤ _; exact Nat.le_of_eq rfl) (hb hby own_dbad_54) (fun _ _ => ⟨rfl, e5, (by decide : 0 + 0 ≤ _), (by decide : 0 + 0 ≤ _)⟩)
            dsimp only [Pt.U, Pt.locs, Pt.cells, Pt.slots] at X6 l6 y6 z6 st6 hQ6
            subst l6 y6 z6
            obtain ⟨rfl, N6q, e6⟩ := hQ6
            refine own_Fin.go (fun t k => st6 t k) ?_
            have N6 := Fr.app N5 N6q
            show own_Fin _ _ _ _ _ _ _ (T6.setTop (mkF m 57 #[.val (.ref ra), .val (.int vb), .val (.int vc)] [(.int (own_hit LS (5 : Int32) vb vc))]))
            by_cases hc57 : (own_hit LS (5 : Int32) vb vc) = (0 : Int32)
            · refine own_Fin.go (fun t k => XS.ifNo X6.here hx rfl (hb hby own_dbad_57) rfl (Jvm.Free.XT.i0_ne_f hc57) k) ?_
              show own_Fin _ _ _ _ _ _ _ (T6.setTop (mkF m 60 #[.val (.ref ra), .val (.int vb), .val (.int vc)] []))
              refine own_Fin.go (fun t k => XS.aloadN X6.here hx rfl (hb hby own_dbad_60) rfl rfl k) ?_
              show own_Fin _ _ _ _ _ _ _ (T6.setTop (mkF m 61 #[.val (.ref ra), .val (.int vb), .val (.int vc)] [(.ref ra)]))
              refine own_Fin.go (fun t k => XS.bipush X6.here hx rfl (hb hby own_dbad_61) k) ?_
              show own_Fin _ _ _ _ _ _ _ (T6.setTop (mkF m 63 #[.val (.ref ra), .val (.int vb), .val (.int vc)] [(.int (6 : Int32)), (.ref ra)]))
              refine own_Fin.go (fun t k => XS.iloadN X6.here hx rfl (hb hby own_dbad_63) rfl k) ?_
              show own_Fin _ _ _ _ _ _ _ (T6.setTop (mkF m 64 #[.val (.ref ra), .val (.int vb), .val (.int vc)] [(.int vb), (.int (6 : Int32)), (.ref ra)]))
              refine own_Fin.go (fun t k => XS.iloadN X6.here hx rfl (hb hby own_dbad_64) rfl k) ?_
              show own_Fin _ _ _ _ _ _ _ (T6.setTop (mkF m 65 #[.val (.ref ra), .val (.int vb), .val (.int vc)] [(.int vc), (.int vb), (.int (6 : Int32)), (.ref ra)]))
              obtain ⟨_, _, ⟨T7, L7, k7, n7⟩, -, X7, ⟨Lc7, hQ7, l7, y7, z7⟩, st7⟩ := Jvm.LawKit.callS X6 hx (y := (⟨"com/example/wardkeeper/wardkeeper/hl7/LinesAllAsciiPinLaw", "hit", "([BIII)Z"⟩ : MethodName)) hown (mvT hZ (hw _ (List.mem_of_getElem? (i := 39) rfl))) (mvT hZ (hw _ (List.mem_of_getElem? (i := 40) rfl))) (mvT hZ (hw _ (List.mem_of_getElem? (i := 37) rfl))) (mvT hZ (hw _ (List.mem_of_getElem? (i := 41) rfl))) (by decide) (backOf (W := 0) (own_rm_hit l Z a0 hw [] ra (6 : Int32) vb vc ks LS h0 n0 Z0 V_ra (by decide) (by decide)) hZ (hw _ (List.mem_of_getElem? (i := 41) rfl)) (hw _ (List.mem_of_getElem? (i := 37) rfl)) (by decide) (by decide)) (g := (mkF m 65 #[.val (.ref ra), .val (.int vb), .val (.int vc)] [(.int vc), (.int vb), (.int (6 : Int32)), (.ref ra)])) rfl (by rw [hml]; rfl) (argsL := [(.ref ra), (.int (6 : Int32)), (.int vb), (.int vc)]) (rest := []) (lenOf own_pd2 rfl) rfl (by show 2 * 0 + _ ≤ _; exact Nat.le_of_eq rfl) (hb hby own_dbad_65) (fun _ _ => ⟨rfl, e6, (by decide : 0 + 0 ≤ _), (by decide : 0 + 0 ≤ _)⟩)
              dsimp only [Pt.U, Pt.locs, Pt.cells, Pt.slots] at X7 l7 y7 z7 st7 hQ7
              subst l7 y7 z7
              obtain ⟨rfl, N7q, e7⟩ := hQ7
              refine own_Fin.go (fun t k => st7 t k) ?_
              have N7 := Fr.app N6 N7q
              show own_Fin _ _ _ _ _ _ _ (T7.setTop (mkF m 68 #[.val (.ref ra), .val (.int vb), .val (.int vc)] [(.int (own_hit LS (6 : Int32) vb vc))]))
              by_cases hc68 : (own_hit LS (6 : Int32) vb vc) = (0 : Int32)
              · refine own_Fin.go (fun t k => XS.ifNo X7.here hx rfl (hb hby own_dbad_68) rfl (Jvm.Free.XT.i0_ne_f hc68) k) ?_
                show own_Fin _ _ _ _ _ _ _ (T7.setTop (mkF m 71 #[.val (.ref ra), .val (.int vb), .val (.int vc)] []))
                refine own_Fin.go (fun t k => XS.aloadN X7.here hx rfl (hb hby own_dbad_71) rfl rfl k) ?_
                show own_Fin _ _ _ _ _ _ _ (T7.setTop (mkF m 72 #[.val (.ref ra), .val (.int vb), .val (.int vc)] [(.ref ra)]))
                refine own_Fin.go (fun t k => XS.bipush X7.here hx rfl (hb hby own_dbad_72) k) ?_
                show own_Fin _ _ _ _ _ _ _ (T7.setTop (mkF m 74 #[.val (.ref ra), .val (.int vb), .val (.int vc)] [(.int (7 : Int32)), (.ref ra)]))
                refine own_Fin.go (fun t k => XS.iloadN X7.here hx rfl (hb hby own_dbad_74) rfl k) ?_
                show own_Fin _ _ _ _ _ _ _ (T7.setTop (mkF m 75 #[.val (.ref ra), .val (.int vb), .val (.int vc)] [(.int vb), (.int (7 : Int32)), (.ref ra)]))
                refine own_Fin.go (fun t k => XS.iloadN X7.here hx rfl (hb hby own_dbad_75) rfl k) ?_
                show own_Fin _ _ _ _ _ _ _ (T7.setTop (mkF m 76 #[.val (.ref ra), .val (.int vb), .val (.int vc)] [(.int vc), (.int vb), (.int (7 : Int32)), (.ref ra)]))
                obtain ⟨_, _, ⟨T8, L8, k8, n8⟩, -, X8, ⟨Lc8, hQ8, l8, y8, z8⟩, st8⟩ := Jvm.LawKit.callS X7 hx (y := (⟨"com/example/wardkeeper/wardkeeper/hl7/LinesAllAsciiPinLaw", "hit", "([BIII)Z"⟩ : MethodName)) hown (mvT hZ (hw _ (List.mem_of_getElem? (i := 39) rfl))) (mvT hZ (hw _ (List.mem_of_getElem? (i := 40) rfl))) (mvT hZ (hw _ (List.mem_of_getElem? (i := 37) rfl))) (mvT hZ (hw _ (List.mem_of_getElem? (i := 41) rfl))) (by decide) (backOf (W := 0) (own_rm_hit l Z a0 hw [] ra (7 : Int32) vb vc ks LS h0 n0 Z0 V_ra (by decide) (by decide)) hZ (hw _ (List.mem_of_getElem? (i := 41) rfl)) (hw _ (List.mem_of_getElem? (i := 37) rfl)) (by decide) (by decide)) (g := (mkF m 76 #[.val (.ref ra), .val (.int vb), .val (.int vc)] [(.int vc), (.int vb), (.int (7 : Int32)), (.ref ra)])) rfl (by rw [hml]; rfl) (argsL := [(.ref ra), (.int (7 : Int32)), (.int vb), (.int vc)]) (rest := []) (lenOf own_pd2 rfl) rfl (by show 2 * 0 + _ ≤ _; exact Nat.le_of_eq rfl) (hb hby own_dbad_76) (fun _ _ => ⟨rfl, e7, (by decide : 0 + 0 ≤ _), (by decide : 0 + 0 ≤ _)⟩)
                dsimp only [Pt.U, Pt.locs, Pt.cells, Pt.slots] at X8 l8 y8 z8 st8 hQ8
                subst l8 y8 z8
                obtain ⟨rfl, N8q, e8⟩ := hQ8
                refine own_Fin.go (fun t k => st8 t k) ?_
                have N8 := Fr.app N7 N8q
                show own_Fin _ _ _ _ _ _ _ (T8.setTop (mkF m 79 #[.val (.ref ra), .val (.int vb), .val (.int vc)] [(.int (own_hit LS (7 : Int32) vb vc))]))
                by_cases hc79 : (own_hit LS (7 : Int32) vb vc) = (0 : Int32)
                · refine own_Fin.go (fun t k => XS.ifYes X8.here hx rfl (pc0 := 79) (pc' := 86) rfl (hb hby own_dbad_79) rfl (Jvm.Free.XT.i0_eq_t hc79) (by decide) (by decide) k) ?_
                  show own_Fin _ _ _ _ _ _ _ (T8.setTop (mkF m 86 #[.val (.ref ra), .val (.int vb), .val (.int vc)] []))
                  refine own_Fin.go (fun t k => XS.iconst X8.here hx rfl (hb hby own_dbad_86) k) ?_
                  show own_Fin _ _ _ _ _ _ _ (T8.setTop (mkF m 87 #[.val (.ref ra), .val (.int vb), .val (.int vc)] [(.int (0 : Int32))]))
                  refine own_retN X8 hx (t := .boolean) (w := (0 : Int32)) Bd.returns (by simp) (hb hby own_dbad_87) Bd.notSynchronized rfl (by decide) (by decide) ?_
                  rw [e8]
                  exact ⟨by simp only [own_bad, if_pos hc7, if_pos hc17, if_pos hc27, if_pos hc37, if_pos hc47, if_pos hc57, if_pos hc68, if_pos hc79], N8, rfl⟩
                · refine own_Fin.go (fun t k => XS.ifNo X8.here hx rfl (hb hby own_dbad_79) rfl (Jvm.Free.XT.i0_eq_f hc79) k) ?_
                  show own_Fin _ _ _ _ _ _ _ (T8.setTop (mkF m 82 #[.val (.ref ra), .val (.int vb), .val (.int vc)] []))
                  refine own_Fin.go (fun t k => XS.iconst X8.here hx rfl (hb hby own_dbad_82) k) ?_
                  show own_Fin _ _ _ _ _ _ _ (T8.setTop (mkF m 83 #[.val (.ref ra), .val (.int vb), .val (.int vc)] [(.int (1 : Int32))]))
                  refine own_Fin.go (fun t k => XS.goto X8.here hx rfl (pc0 := 83) (pc' := 87) rfl (hb hby own_dbad_83) (by decide) (by decide) k) ?_
                  show own_Fin _ _ _ _ _ _ _ (T8.setTop (mkF m 87 #[.val (.ref ra), .val (.int vb), .val (.int vc)] [(.int (1 : Int32))]))
                  refine own_retN X8 hx (t := .boolean) (w := (1 : Int32)) Bd.returns (by simp) (hb hby own_dbad_87) Bd.notSynchronized rfl (by decide) (by decide) ?_
                  rw [e8]
                  exact ⟨by simp only [own_bad, if_pos hc7, if_pos hc17, if_pos hc27, if_pos hc37, if_pos hc47, if_pos hc57, if_pos hc68, if_neg hc79], N8, rfl⟩
              · refine own_Fin.go (fun t k => XS.ifYes X7.here hx rfl (pc0 := 68) (pc' := 82) rfl (hb hby own_dbad_68) rfl (Jvm.Free.XT.i0_ne_t hc68) (by decide) (by decide) k) ?_
                show own_Fin _ _ _ _ _ _ _ (T7.setTop (mkF m 82 #[.val (.ref ra), .val (.int vb), .val (.int vc)] []))
                refine own_Fin.go (fun t k => XS.iconst X7.here hx rfl (hb hby own_dbad_82) k) ?_
                show own_Fin _ _ _ _ _ _ _ (T7.setTop (mkF m 83 #[.val (.ref ra), .val (.int vb), .val (.int vc)] [(.int (1 : Int32))]))
                refine own_Fin.go (fun t k => XS.goto X7.here hx rfl (pc0 := 83) (pc' := 87) rfl (hb hby own_dbad_83) (by decide) (by decide) k) ?_
                show own_Fin _ _ _ _ _ _ _ (T7.setTop (mkF m 87 #[.val (.ref ra), .val (.int vb), .val (.int vc)] [(.int (1 : Int32))]))
                refine own_retN X7 hx (t := .boolean) (w := (1 : Int32)) Bd.returns (by simp) (hb hby own_dbad_87) Bd.notSynchronized rfl (by decide) (by decide) ?_
                rw [e7]
                exact ⟨by simp only [own_bad, if_pos hc7, if_pos hc17, if_pos hc27, if_pos hc37, if_pos hc47, if_pos hc57, if_neg hc68], N7, rfl⟩
            · refine own_Fin.go (fun t k => XS.ifYes X6.here hx rfl (pc0 := 57) (pc' := 82) rfl (hb hby own_dbad_57) rfl (Jvm.Free.XT.i0_ne_t hc57) (by decide) (by decide) k) ?_
              show own_Fin _ _ _ _ _ _ _ (T6.setTop (mkF m 82 #[.val (.ref ra), .val (.int vb), .val (.int vc)] []))
              refine own_Fin.go (fun t k => XS.iconst X6.here hx rfl (hb hby own_dbad_82) k) ?_
              show own_Fin _ _ _ _ _ _ _ (T6.setTop (mkF m 83 #[.val (.ref ra), .val (.int vb), .val (.int vc)] [(.int (1 : Int32))]))
              refine own_Fin.go (fun t k => XS.goto X6.here hx rfl (pc0 := 83) (pc' := 87) rfl (hb hby own_dbad_83) (by decide) (by decide) k) ?_
              show own_Fin _ _ _ _ _ _ _ (T6.setTop (mkF m 87 #[.val (.ref ra), .val (.int vb), .val (.int vc)] [(.int (1 : Int32))]))
              refine own_retN X6 hx (t := .boolean) (w := (1 : Int32)) Bd.returns (by simp) (hb hby own_dbad_87) Bd.notSynchronized rfl (by decide) (by decide) ?_
              rw [e6]
              exact ⟨by simp only [own_bad, if_pos hc7, if_pos hc17, if_pos hc27, if_pos hc37, if_pos hc47, if_neg hc57], N6, rfl⟩
          · refine own_Fin.go (fun t k => XS.ifYes X5.here hx rfl (pc0 := 47) (pc' := 82) rfl (hb hby own_dbad_47) rfl (Jvm.Free.XT.i0_ne_t hc47) (by decide) (by decide) k) ?_
            show own_Fin _ _ _ _ _ _ _ (T5.setTop (mkF m 82 #[.val (.ref ra), .val (.int vb), .val (.int vc)] []))
            refine own_Fin.go (fun t k => XS.iconst X5.here hx rfl (hb hby own_dbad_82) k) ?_
            show own_Fin _ _ _ _ _ _ _ (T5.setTop (mkF m 83 #[.val (.ref ra), .val (.int vb), .val (.int vc)] [(.int (1 : Int32))]))
            refine own_Fin.go (fun t k => XS.goto X5.here hx rfl (pc0 := 83) (pc' := 87) rfl (hb hby own_dbad_83) (by decide) (by decide) k) ?_
            show own_Fin _ _ _ _ _ _ _ (T5.setTop (mkF m 87 #[.val (.ref ra), .val (.int vb), .val (.int vc)] [(.int (1 : Int32))]))
            refine own_retN X5 hx (t := .boolean) (w := (1 : Int32)) Bd.returns (by simp) (hb hby own_dbad_87) Bd.notSynchronized rfl (by decide) (by decide) ?_
            rw [e5]
            exact ⟨by simp only [own_bad, if_pos hc7, if_pos hc17, if_pos hc27, if_pos hc37, if_neg hc47], N5, rfl⟩
        · refine own_Fin.go (fun t k => XS.ifYes X4.here hx rfl (pc0 := 37) (pc' := 82) rfl (hb hby own_dbad_37) rfl (Jvm.Free.XT.i0_ne_t hc37) (by decide) (by decide) k) ?_
          show own_Fin _ _ _ _ _ _ _ (T4.setTop (mkF m 82 #[.val (.ref ra), .val (.int vb), .val (.int vc)] []))
          refine own_Fin.go (fun t k => XS.iconst X4.here hx rfl (hb hby own_dbad_82) k) ?_
          show own_Fin _ _ _ _ _ _ _ (T4.setTop (mkF m 83 #[.val (.ref ra), .val (.int vb), .val (.int vc)] [(.int (1 : Int32))]))
          refine own_Fin.go (fun t k => XS.goto X4.here hx rfl (pc0 := 83) (pc' := 87) rfl (hb hby own_dbad_83) (by decide) (by decide) k) ?_
          show own_Fin _ _ _ _ _ _ _ (T4.setTop (mkF m 87 #[.val (.ref ra), .val (.int vb), .val (.int vc)] [(.int (1 : Int32))]))
          refine own_retN X4 hx (t := .boolean) (w := (1 : Int32)) Bd.returns (by simp) (hb hby own_dbad_87) Bd.notSynchronized rfl (by decide) (by decide) ?_
          rw [e4]
          exact ⟨by simp only [own_bad, if_pos hc7, if_pos hc17, if_pos hc27, if_neg hc37], N4, rfl⟩
      · refine own_Fin.go (fun t k => XS.ifYes X3.here hx rfl (pc0 := 27) (pc' := 82) rfl (hb hby own_dbad_27) rfl (Jvm.Free.XT.i0_ne_t hc27) (by decide) (by decide) k) ?_
        show own_Fin _ _ _ _ _ _ _ (T3.setTop (mkF m 82 #[.val (.ref ra), .val (.int vb), .val (.int vc)] []))
        refine own_Fin.go (fun t k => XS.iconst X3.here hx rfl (hb hby own_dbad_82) k) ?_
        show own_Fin _ _ _ _ _ _ _ (T3.setTop (mkF m 83 #[.val (.ref ra), .val (.int vb), .val (.int vc)] [(.int (1 : Int32))]))
        refine own_Fin.go (fun t k => XS.goto X3.here hx rfl (pc0 := 83) (pc' := 87) rfl (hb hby own_dbad_83) (by decide) (by decide) k) ?_
        show own_Fin _ _ _ _ _ _ _ (T3.setTop (mkF m 87 #[.val (.ref ra), .val (.int vb), .val (.int vc)] [(.int (1 : Int32))]))
        refine own_retN X3 hx (t := .boolean) (w := (1 : Int32)) Bd.returns (by simp) (hb hby own_dbad_87) Bd.notSynchronized rfl (by decide) (by decide) ?_
        rw [e3]
        exact ⟨by simp only [own_bad, if_pos hc7, if_pos hc17, if_neg hc27], N3, rfl⟩
    · refine own_Fin.go (fun t k => XS.ifYes X2.here hx rfl (pc0 := 17) (pc' := 82) rfl (hb hby own_dbad_17) rfl (Jvm.Free.XT.i0_ne_t hc17) (by decide) (by decide) k) ?_
      show own_Fin _ _ _ _ _ _ _ (T2.setTop (mkF m 82 #[.val (.ref ra), .val (.int vb), .val (.int vc)] []))
      refine own_Fin.go (fun t k => XS.iconst X2.here hx rfl (hb hby own_dbad_82) k) ?_
      show own_Fin _ _ _ _ _ _ _ (T2.setTop (mkF m 83 #[.val (.ref ra), .val (.int vb), .val (.int vc)] [(.int (1 : Int32))]))
      refine own_Fin.go (fun t k => XS.goto X2.here hx rfl (pc0 := 83) (pc' := 87) rfl (hb hby own_dbad_83) (by decide) (by decide) k) ?_
      show own_Fin _ _ _ _ _ _ _ (T2.setTop (mkF m 87 #[.val (.ref ra), .val (.int vb), .val (.int vc)] [(.int (1 : Int32))]))
      refine own_retN X2 hx (t := .boolean) (w := (1 : Int32)) Bd.returns (by simp) (hb hby own_dbad_87) Bd.notSynchronized rfl (by decide) (by decide) ?_
      rw [e2]
      exact ⟨by simp only [own_bad, if_pos hc7, if_neg hc17], N2, rfl⟩
  · refine own_Fin.go (fun t k => XS.ifYes X1.here hx rfl (pc0 := 7) (pc' := 82) rfl (hb hby own_dbad_7) rfl (Jvm.Free.XT.i0_ne_t hc7) (by decide) (by decide) k) ?_
    show own_Fin _ _ _ _ _ _ _ (T1.setTop (mkF m 82 #[.val (.ref ra), .val (.int vb), .val (.int vc)] []))
    refine own_Fin.go (fun t k => XS.iconst X1.here hx rfl (hb hby own_dbad_82) k) ?_
    show own_Fin _ _ _ _ _ _ _ (T1.setTop (mkF m 83 #[.val (.ref ra), .val (.int vb), .val (.int vc)] [(.int (1 : Int32))]))
    refine own_Fin.go (fun t k => XS.goto X1.here hx rfl (pc0 := 83) (pc' := 87) rfl (hb hby own_dbad_83) (by decide) (by decide) k) ?_
    show own_Fin _ _ _ _ _ _ _ (T1.setTop (mkF m 87 #[.val (.ref ra), .val (.int vb), .val (.int vc)] [(.int (1 : Int32))]))
    refine own_retN X1 hx (t := .boolean) (w := (1 : Int32)) Bd.returns (by simp) (hb hby own_dbad_87) Bd.notSynchronized rfl (by decide) (by decide) ?_
    rw [e1]
    exact ⟨by simp only [own_bad, if_neg hc7], N1, rfl⟩
theorem own_up {k : Int} {S : Int32} (h : own_ok k S) (hk : k ≤ 100) : own_ok 100 S := ⟨h.1, Int.le_trans h.2 hk⟩
theorem own_pd3 : parseMethodDescriptor "()V" = some ⟨[], none⟩ := by decide +kernel
theorem own_pd4 : parseMethodDescriptor "([BII)V" = some ⟨[(.array .byte), .int, .int], none⟩ := by decide +kernel
theorem own_pd5 : parseMethodDescriptor "([BII)Z" = some ⟨[(.array .byte), .int, .int], some .boolean⟩ := by decide +kernel
theorem own_pd6 : parseMethodDescriptor "()Z" = some ⟨[], some .boolean⟩ := by decide +kernel
theorem own_ef_law (m : MethodId) (va : Int32) (vb : Int32) (vc : Int32) (vd : Int32) (ve : Int32) (vf : Int32) : entryFrame m #[(.int va), (.int vb), (.int vc), (.int vd), (.int ve), (.int vf)] maxLocals = mkF m 0 #[.val (.int va), .val (.int vb), .val (.int vc), .val (.int vd), .val (.int ve), .val (.int vf), .unset, .unset, .unset, .unset, .unset, .unset, .unset, .unset, .unset, .unset, .unset, .unset] [] := by first | (simp [entryFrame, mkF, argsToLocals, Value.category, maxLocals]; done) | rfl
def own_Q_law (Z : State) (va : Int32) (vb : Int32) (vc : Int32) (vd : Int32) (ve : Int32) (vf : Int32) (h0 : Heap) (n0 : Nat) (v : Option Value) (h : Heap) (L : List Loc) : Prop := v = some (.int (1 : Int32)) ∧ Fr n0 L
set_option maxRecDepth 65536 in
set_option maxHeartbeats 40000000 in
theorem own_rm_law (l : Launch) (Z : State) (a0 : Array Value) (hw : ∀ d ∈ tables_1, d.before a0 Z = true) (ws : List Jvm.Cond) (va : Int32) (vb : Int32) (vc : Int32) (vd : Int32) (ve : Int32) (vf : Int32) (h0 : Heap) (n0 : Nat) (Z0 : n0 ≤ h0.size) :
    MetFree l x (head1 (Jvm.Cond.code x code maxLocals ret :: ws) room_1) (fun a U => a = #[(.int va), (.int vb), (.int vc), (.int vd), (.int ve), (.int vf)] ∧ Z.Warmed39 U.vm ∧ U.heap = h0) (fun _ _ _ _ _ => True) (fun _ U o U' => ∃ v L, o = .returned v ∧ own_Q_law Z va vb vc vd ve vf h0 n0 v U'.heap L ∧ FrameEnd U o U' L room_1.cells room_1.slots) := by
  refine MetFree.of_bodySF (plainFor_of_name own_pn1) hisR ?_
  intro p e s m args below meth c s₁ Bd hml0 hP hK
  obtain ⟨rfl, hZ, hh⟩ := hP
  have hx := Bd.exec
  have hby := Bd.bytes
  have hml : c.maxLocals = 18 := hml0
  have hown : s.vm.findClass "com/example/wardkeeper/wardkeeper/hl7/LinesAllAsciiPinLaw" = some m.cls := findClass_of_methodNamed Bd.named
  have hnm := (name_of_methodNamed Bd.named Bd.method).1
  have X0 : Stand p l e room_1 s m #[(.int va), (.int vb), (.int vc), (.int vd), (.int ve), (.int vf)] below meth c s₁ [] 0 0 := Stand.of_body Bd
  have e0 : s₁.heap = h0 := by rw [← hh, Bd.state]; rfl
  have N0 := Fr.nil n0
  show own_Fin p e below s (own_Q_law Z va vb vc vd ve vf h0 n0) room_1.cells room_1.slots (s₁.setTop (entryFrame m #[(.int va), (.int vb), (.int vc), (.int vd), (.int ve), (.int vf)] maxLocals))
  refine own_Fin.go (fun t k => castTop (own_ef_law m va vb vc vd ve vf) k) ?_
  refine own_Fin.go (fun t k => XS.bipush X0.here hx rfl (hb hby at_0) k) ?_
  show own_Fin _ _ _ _ _ _ _ (s₁.setTop (mkF m 2 #[.val (.int va), .val (.int vb), .val (.int vc), .val (.int vd), .val (.int ve), .val (.int vf), .unset, .unset, .unset, .unset, .unset, .unset, .unset, .unset, .unset, .unset, .unset, .unset] [(.int (8 : Int32))]))
  obtain ⟨T1, h1, k1, X1, e1, E1, A1, st1⟩ := newP X0 hx hZ (hw _ (List.mem_of_getElem? (i := 0) rfl)) e0 (g := (mkF m 2 #[.val (.int va), .val (.int vb), .val (.int vc), .val (.int vd), .val (.int ve), .val (.int vf), .unset, .unset, .unset, .unset, .unset, .unset, .unset, .unset, .unset, .unset, .unset, .unset] [(.int (8 : Int32))])) rfl (hb hby at_2) rfl (by decide) (cap := 8) (by decide) (by decide) (by decide) (by decide)
  obtain ⟨b1, g1⟩ : ∃ z, z = h0.size := ⟨_, rfl⟩
  rw [← g1] at A1 st1
  refine own_Fin.go st1 ?_
  have g_b1 : n0 ≤ b1 := Nat.le_trans Z0 (Nat.le_of_eq g1.symm)
  have Z1 := Nat.le_trans Z0 E1.1
  have V_b1 : Arv Z h1 b1 k1 .byte (8 : Int32) [(.int (0 : Int32)), (.int (0 : Int32)), (.int (0 : Int32)), (.int (0 : Int32)), (.int (0 : Int32)), (.int (0 : Int32)), (.int (0 : Int32)), (.int (0 : Int32))] (.int (0 : Int32)) := (Arv.new A1 (by decide)).pad (pad_rep [] (.int (0 : Int32)) 8)
  show own_Fin _ _ _ _ _ _ _ (T1.setTop (mkF m 4 #[.val (.int va), .val (.int vb), .val (.int vc), .val (.int vd), .val (.int ve), .val (.int vf), .unset, .unset, .unset, .unset, .unset, .unset, .unset, .unset, .unset, .unset, .unset, .unset] [(.ref b1)]))
  refine own_Fin.go (fun t k => XS.astore X1.here hx rfl (hb hby at_4) rfl rfl (l' := #[.val (.int va), .val (.int vb), .val (.int vc), .val (.int vd), .val (.int ve), .val (.int vf), .val (.ref b1), .unset, .unset, .unset, .unset, .unset, .unset, .unset, .unset, .unset, .unset, .unset]) rfl k) ?_
  show own_Fin _ _ _ _ _ _ _ (T1.setTop (mkF m 6 #[.val (.int va), .val (.int vb), .val (.int vc), .val (.int vd), .val (.int ve), .val (.int vf), .val (.ref b1), .unset, .unset, .unset, .unset, .unset, .unset, .unset, .unset, .unset, .unset, .unset] []))
  refine own_Fin.go (fun t k => XS.aload X1.here hx rfl (hb hby at_6) rfl rfl k) ?_
  show own_Fin _ _ _ _ _ _ _ (T1.setTop (mkF m 8 #[.val (.int va), .val (.int vb), .val (.int vc), .val (.int vd), .val (.int ve), .val (.int vf), .val (.ref b1), .unset, .unset, .unset, .unset, .unset, .unset, .unset, .unset, .unset, .unset, .unset] [(.ref b1)]))
  refine own_Fin.go (fun t k => XS.iconst X1.here hx rfl (hb hby at_8) k) ?_
  show own_Fin _ _ _ _ _ _ _ (T1.setTop (mkF m 9 #[.val (.int va), .val (.int vb), .val (.int vc), .val (.int vd), .val (.int ve), .val (.int vf), .val (.ref b1), .unset, .unset, .unset, .unset, .unset, .unset, .unset, .unset, .unset, .unset, .unset] [(.int (0 : Int32)), (.ref b1)]))
  refine own_Fin.go (fun t k => XS.iloadN X1.here hx rfl (hb hby at_9) rfl k) ?_
  show own_Fin _ _ _ _ _ _ _ (T1.setTop (mkF m 10 #[.val (.int va), .val (.int vb), .val (.int vc), .val (.int vd), .val (.int ve), .val (.int vf), .val (.ref b1), .unset, .unset, .unset, .unset, .unset, .unset, .unset, .unset, .unset, .unset, .unset] [(.int va), (.int (0 : Int32)), (.ref b1)]))
  refine own_Fin.go (fun t k => XS.i2b X1.here hx rfl (hb hby at_10) rfl k) ?_
  show own_Fin _ _ _ _ _ _ _ (T1.setTop (mkF m 11 #[.val (.int va), .val (.int vb), .val (.int vc), .val (.int vd), .val (.int ve), .val (.int vf), .val (.ref b1), .unset, .unset, .unset, .unset, .unset, .unset, .unset, .unset, .unset, .unset, .unset] [(.int (va.toInt8.toInt32)), (.int (0 : Int32)), (.ref b1)]))
  obtain ⟨cl2, Ar2, q2, S2, N2l, H2, G2⟩ := (id V_b1)
  have hin2 : ¬ ((0 : Int32) < 0 ∨ cl2.slots.size ≤ ((0 : Int32)).toNatClampNeg) := inb_of S2 ⟨by decide, by decide⟩
  obtain ⟨T2, h2, X2, e2, W2, st2⟩ := stB X1 hx hZ e1 Ar2 (j := (0 : Int32)) hin2 (g := (mkF m 11 #[.val (.int va), .val (.int vb), .val (.int vc), .val (.int vd), .val (.int ve), .val (.int vf), .val (.ref b1), .unset, .unset, .unset, .unset, .unset, .unset, .unset, .unset, .unset, .unset, .unset] [(.int (va.toInt8.toInt32)), (.int (0 : Int32)), (.ref b1)])) rfl rfl (hb hby at_11)
  refine own_Fin.go st2 ?_
  have V_b1_2 := Arv.set Ar2 q2 S2 N2l H2 G2 (fits_nar_byte _) W2 0 rfl (Nat.le_of_ble_eq_true rfl)
  replace V_b1_2 : Arv Z h2 b1 k1 .byte (8 : Int32) [(.int (va.toInt8.toInt32).toInt8.toInt32), (.int (0 : Int32)), (.int (0 : Int32)), (.int (0 : Int32)), (.int (0 : Int32)), (.int (0 : Int32)), (.int (0 : Int32)), (.int (0 : Int32))] (.int (0 : Int32)) := V_b1_2
  have Z2 := Nat.le_trans Z1 (Keep.of_wr W2).1
  have N2 := Fr.snoc X2 N0 g_b1
  show own_Fin _ _ _ _ _ _ _ (T2.setTop (mkF m 12 #[.val (.int va), .val (.int vb), .val (.int vc), .val (.int vd), .val (.int ve), .val (.int vf), .val (.ref b1), .unset, .unset, .unset, .unset, .unset, .unset, .unset, .unset, .unset, .unset, .unset] []))
  refine own_Fin.go (fun t k => XS.aload X2.here hx rfl (hb hby at_12) rfl rfl k) ?_
  show own_Fin _ _ _ _ _ _ _ (T2.setTop (mkF m 14 #[.val (.int va), .val (.int vb), .val (.int vc), .val (.int vd), .val (.int ve), .val (.int vf), .val (.ref b1), .unset, .unset, .unset, .unset, .unset, .unset, .unset, .unset, .unset, .unset, .unset] [(.ref b1)]))
  refine own_Fin.go (fun t k => XS.iconst X2.here hx rfl (hb hby at_14) k) ?_
  show own_Fin _ _ _ _ _ _ _ (T2.setTop (mkF m 15 #[.val (.int va), .val (.int vb), .val (.int vc), .val (.int vd), .val (.int ve), .val (.int vf), .val (.ref b1), .unset, .unset, .unset, .unset, .unset, .unset, .unset, .unset, .unset, .unset, .unset] [(.int (1 : Int32)), (.ref b1)]))
  refine own_Fin.go (fun t k => XS.iloadN X2.here hx rfl (hb hby at_15) rfl k) ?_
  show own_Fin _ _ _ _ _ _ _ (T2.setTop (mkF m 16 #[.val (.int va), .val (.int vb), .val (.int vc), .val (.int vd), .val (.int ve), .val (.int vf), .val (.ref b1), .unset, .unset, .unset, .unset, .unset, .unset, .unset, .unset, .unset, .unset, .unset] [(.int va), (.int (1 : Int32)), (.ref b1)]))
  refine own_Fin.go (fun t k => XS.bipush X2.here hx rfl (hb hby at_16) k) ?_
  show own_Fin _ _ _ _ _ _ _ (T2.setTop (mkF m 18 #[.val (.int va), .val (.int vb), .val (.int vc), .val (.int vd), .val (.int ve), .val (.int vf), .val (.ref b1), .unset, .unset, .unset, .unset, .unset, .unset, .unset, .unset, .unset, .unset, .unset] [(.int (8 : Int32)), (.int va), (.int (1 : Int32)), (.ref b1)]))
  refine own_Fin.go (fun t k => XS.ishr X2.here hx rfl (hb hby at_18) rfl k) ?_
  show own_Fin _ _ _ _ _ _ _ (T2.setTop (mkF m 19 #[.val (.int va), .val (.int vb), .val (.int vc), .val (.int vd), .val (.int ve), .val (.int vf), .val (.ref b1), .unset, .unset, .unset, .unset, .unset, .unset, .unset, .unset, .unset, .unset, .unset] [(.int (va >>> ((8 : Int32) &&& 31))), (.int (1 : Int32)), (.ref b1)]))
  refine own_Fin.go (fun t k => XS.i2b X2.here hx rfl (hb hby at_19) rfl k) ?_
  show own_Fin _ _ _ _ _ _ _ (T2.setTop (mkF m 20 #[.val (.int va), .val (.int vb), .val (.int vc), .val (.int vd), .val (.int ve), .val (.int vf), .val (.ref b1), .unset, .unset, .unset, .unset, .unset, .unset, .unset, .unset, .unset, .unset, .unset] [(.int ((va >>> ((8 : Int32) &&& 31)).toInt8.toInt32)), (.int (1 : Int32)), (.ref b1)]))
  obtain ⟨cl3, Ar3, q3, S3, N3l, H3, G3⟩ := (id V_b1_2)
  have hin3 : ¬ ((1 : Int32) < 0 ∨ cl3.slots.size ≤ ((1 : Int32)).toNatClampNeg) := inb_of S3 ⟨by decide, by decide⟩
  obtain ⟨T3, h3, X3, e3, W3, st3⟩ := stB X2 hx hZ e2 Ar3 (j := (1 : Int32)) hin3 (g := (mkF m 20 #[.val (.int va), .val (.int vb), .val (.int vc), .val (.int vd), .val (.int ve), .val (.int vf), .val (.ref b1), .unset, .unset, .unset, .unset, .unset, .unset, .unset, .unset, .unset, .unset, .unset] [(.int ((va >>> ((8 : Int32) &&& 31)).toInt8.toInt32)), (.int (1 : Int32)), (.ref b1)])) rfl rfl (hb hby at_20)
  refine own_Fin.go st3 ?_
  have V_b1_3 := Arv.set Ar3 q3 S3 N3l H3 G3 (fits_nar_byte _) W3 1 rfl (Nat.le_of_ble_eq_true rfl)
  replace V_b1_3 : Arv Z h3 b1 k1 .byte (8 : Int32) [(.int (va.toInt8.toInt32).toInt8.toInt32), (.int ((va >>> ((8 : Int32) &&& 31)).toInt8.toInt32).toInt8.toInt32), (.int (0 : Int32)), (.int (0 : Int32)), (.int (0 : Int32)), (.int (0 : Int32)), (.int (0 : Int32)), (.int (0 : Int32))] (.int (0 : Int32)) := V_b1_3
  have Z3 := Nat.le_trans Z2 (Keep.of_wr W3).1
  have N3 := Fr.snoc X3 N2 g_b1
  show own_Fin _ _ _ _ _ _ _ (T3.setTop (mkF m 21 #[.val (.int va), .val (.int vb), .val (.int vc), .val (.int vd), .val (.int ve), .val (.int vf), .val (.ref b1), .unset, .unset, .unset, .unset, .unset, .unset, .unset, .unset, .unset, .unset, .unset] []))
  refine own_Fin.go (fun t k => XS.aload X3.here hx rfl (hb hby at_21) rfl rfl k) ?_
  show own_Fin _ _ _ _ _ _ _ (T3.setTop (mkF m 23 #[.val (.int va), .val (.int vb), .val (.int vc), .val (.int vd), .val (.int ve), .val (.int vf), .val (.ref b1), .unset, .unset, .unset, .unset, .unset, .unset, .unset, .unset, .unset, .unset, .unset] [(.ref b1)]))
  refine own_Fin.go (fun t k => XS.iconst X3.here hx rfl (hb hby at_23) k) ?_
  show own_Fin _ _ _ _ _ _ _ (T3.setTop (mkF m 24 #[.val (.int va), .val (.int vb), .val (.int vc), .val (.int vd), .val (.int ve), .val (.int vf), .val (.ref b1), .unset, .unset, .unset, .unset, .unset, .unset, .unset, .unset, .unset, .unset, .unset] [(.int (2 : Int32)), (.ref b1)]))
  refine own_Fin.go (fun t k => XS.iloadN X3.here hx rfl (hb hby at_24) rfl k) ?_
  show own_Fin _ _ _ _ _ _ _ (T3.setTop (mkF m 25 #[.val (.int va), .val (.int vb), .val (.int vc), .val (.int vd), .val (.int ve), .val (.int vf), .val (.ref b1), .unset, .unset, .unset, .unset, .unset, .unset, .unset, .unset, .unset, .unset, .unset] [(.int va), (.int (2 : Int32)), (.ref b1)]))
  refine own_Fin.go (fun t k => XS.bipush X3.here hx rfl (hb hby at_25) k) ?_
  show own_Fin _ _ _ _ _ _ _ (T3.setTop (mkF m 27 #[.val (.int va), .val (.int vb), .val (.int vc), .val (.int vd), .val (.int ve), .val (.int vf), .val (.ref b1), .unset, .unset, .unset, .unset, .unset, .unset, .unset, .unset, .unset, .unset, .unset] [(.int (16 : Int32)), (.int va), (.int (2 : Int32)), (.ref b1)]))
  refine own_Fin.go (fun t k => XS.ishr X3.here hx rfl (hb hby at_27) rfl k) ?_
  show own_Fin _ _ _ _ _ _ _ (T3.setTop (mkF m 28 #[.val (.int va), .val (.int vb), .val (.int vc), .val (.int vd), .val (.int ve), .val (.int vf), .val (.ref b1), .unset, .unset, .unset, .unset, .unset, .unset, .unset, .unset, .unset, .unset, .unset] [(.int (va >>> ((16 : Int32) &&& 31))), (.int (2 : Int32)), (.ref b1)]))
  refine own_Fin.go (fun t k => XS.i2b X3.here hx rfl (hb hby at_28) rfl k) ?_
  show own_Fin _ _ _ _ _ _ _ (T3.setTop (mkF m 29 #[.val (.int va), .val (.int vb), .val (.int vc), .val (.int vd), .val (.int ve), .val (.int vf), .val (.ref b1), .unset, .unset, .unset, .unset, .unset, .unset, .unset, .unset, .unset, .unset, .unset] [(.int ((va >>> ((16 : Int32) &&& 31)).toInt8.toInt32)), (.int (2 : Int32)), (.ref b1)]))
  obtain ⟨cl4, Ar4, q4, S4, N4l, H4, G4⟩ := (id V_b1_3)
  have hin4 : ¬ ((2 : Int32) < 0 ∨ cl4.slots.size ≤ ((2 : Int32)).toNatClampNeg) := inb_of S4 ⟨by decide, by decide⟩
  obtain ⟨T4, h4, X4, e4, W4, st4⟩ := stB X3 hx hZ e3 Ar4 (j := (2 : Int32)) hin4 (g := (mkF m 29 #[.val (.int va), .val (.int vb), .val (.int vc), .val (.int vd), .val (.int ve), .val (.int vf), .val (.ref b1), .unset, .unset, .unset, .unset, .unset, .unset, .unset, .unset, .unset, .unset, .unset] [(.int ((va >>> ((16 : Int32) &&& 31)).toInt8.toInt32)), (.int (2 : Int32)), (.ref b1)])) rfl rfl (hb hby at_29)
  refine own_Fin.go st4 ?_
  have V_b1_4 := Arv.set Ar4 q4 S4 N4l H4 G4 (fits_nar_byte _) W4 2 rfl (Nat.le_of_ble_eq_true rfl)
  replace V_b1_4 : Arv Z h4 b1 k1 .byte (8 : Int32) [(.int (va.toInt8.toInt32).toInt8.toInt32), (.int ((va >>> ((8 : Int32) &&& 31)).toInt8.toInt32).toInt8.toInt32), (.int ((va >>> ((16 : Int32) &&& 31)).toInt8.toInt32).toInt8.toInt32), (.int (0 : Int32)), (.int (0 : Int32)), (.int (0 : Int32)), (.int (0 : Int32)), (.int (0 : Int32))] (.int (0 : Int32)) := V_b1_4
  have Z4 := Nat.le_trans Z3 (Keep.of_wr W4).1
  have N4 := Fr.snoc X4 N3 g_b1
  show own_Fin _ _ _ _ _ _ _ (T4.setTop (mkF m 30 #[.val (.int va), .val (.int vb), .val (.int vc), .val (.int vd), .val (.int ve), .val (.int vf), .val (.ref b1), .unset, .unset, .unset, .unset, .unset, .unset, .unset, .unset, .unset, .unset, .unset] []))
  refine own_Fin.go (fun t k => XS.aload X4.here hx rfl (hb hby at_30) rfl rfl k) ?_
  show own_Fin _ _ _ _ _ _ _ (T4.setTop (mkF m 32 #[.val (.int va), .val (.int vb), .val (.int vc), .val (.int vd), .val (.int ve), .val (.int vf), .val (.ref b1), .unset, .unset, .unset, .unset, .unset, .unset, .unset, .unset, .unset, .unset, .unset] [(.ref b1)]))
  refine own_Fin.go (fun t k => XS.iconst X4.here hx rfl (hb hby at_32) k) ?_
  show own_Fin _ _ _ _ _ _ _ (T4.setTop (mkF m 33 #[.val (.int va), .val (.int vb), .val (.int vc), .val (.int vd), .val (.int ve), .val (.int vf), .val (.ref b1), .unset, .unset, .unset, .unset, .unset, .unset, .unset, .unset, .unset, .unset, .unset] [(.int (3 : Int32)), (.ref b1)]))
  refine own_Fin.go (fun t k => XS.iloadN X4.here hx rfl (hb hby at_33) rfl k) ?_
  show own_Fin _ _ _ _ _ _ _ (T4.setTop (mkF m 34 #[.val (.int va), .val (.int vb), .val (.int vc), .val (.int vd), .val (.int ve), .val (.int vf), .val (.ref b1), .unset, .unset, .unset, .unset, .unset, .unset, .unset, .unset, .unset, .unset, .unset] [(.int va), (.int (3 : Int32)), (.ref b1)]))
  refine own_Fin.go (fun t k => XS.bipush X4.here hx rfl (hb hby at_34) k) ?_
  show own_Fin _ _ _ _ _ _ _ (T4.setTop (mkF m 36 #[.val (.int va), .val (.int vb), .val (.int vc), .val (.int vd), .val (.int ve), .val (.int vf), .val (.ref b1), .unset, .unset, .unset, .unset, .unset, .unset, .unset, .unset, .unset, .unset, .unset] [(.int (24 : Int32)), (.int va), (.int (3 : Int32)), (.ref b1)]))
  refine own_Fin.go (fun t k => XS.ishr X4.here hx rfl (hb hby at_36) rfl k) ?_
  show own_Fin _ _ _ _ _ _ _ (T4.setTop (mkF m 37 #[.val (.int va), .val (.int vb), .val (.int vc), .val (.int vd), .val (.int ve), .val (.int vf), .val (.ref b1), .unset, .unset, .unset, .unset, .unset, .unset, .unset, .unset, .unset, .unset, .unset] [(.int (va >>> ((24 : Int32) &&& 31))), (.int (3 : Int32)), (.ref b1)]))
  refine own_Fin.go (fun t k => XS.i2b X4.here hx rfl (hb hby at_37) rfl k) ?_
  show own_Fin _ _ _ _ _ _ _ (T4.setTop (mkF m 38 #[.val (.int va), .val (.int vb), .val (.int vc), .val (.int vd), .val (.int ve), .val (.int vf), .val (.ref b1), .unset, .unset, .unset, .unset, .unset, .unset, .unset, .unset, .unset, .unset, .unset] [(.int ((va >>> ((24 : Int32) &&& 31)).toInt8.toInt32)), (.int (3 : Int32)), (.ref b1)]))
  obtain ⟨cl5, Ar5, q5, S5, N5l, H5, G5⟩ := (id V_b1_4)
  have hin5 : ¬ ((3 : Int32) < 0 ∨ cl5.slots.size ≤ ((3 : Int32)).toNatClampNeg) := inb_of S5 ⟨by decide, by decide⟩
  obtain ⟨T5, h5, X5, e5, W5, st5⟩ := stB X4 hx hZ e4 Ar5 (j := (3 : Int32)) hin5 (g := (mkF m 38 #[.val (.int va), .val (.int vb), .val (.int vc), .val (.int vd), .val (.int ve), .val (.int vf), .val (.ref b1), .unset, .unset, .unset, .unset, .unset, .unset, .unset, .unset, .unset, .unset, .unset] [(.int ((va >>> ((24 : Int32) &&& 31)).toInt8.toInt32)), (.int (3 : Int32)), (.ref b1)])) rfl rfl (hb hby at_38)
  refine own_Fin.go st5 ?_
  have V_b1_5 := Arv.set Ar5 q5 S5 N5l H5 G5 (fits_nar_byte _) W5 3 rfl (Nat.le_of_ble_eq_true rfl)
  replace V_b1_5 : Arv Z h5 b1 k1 .byte (8 : Int32) [(.int (va.toInt8.toInt32).toInt8.toInt32), (.int ((va >>> ((8 : Int32) &&& 31)).toInt8.toInt32).toInt8.toInt32), (.int ((va >>> ((16 : Int32) &&& 31)).toInt8.toInt32).toInt8.toInt32), (.int ((va >>> ((24 : Int32) &&& 31)).toInt8.toInt32).toInt8.toInt32), (.int (0 : Int32)), (.int (0 : Int32)), (.int (0 : Int32)), (.int (0 : Int32))] (.int (0 : Int32)) := V_b1_5
  have Z5 := Nat.le_trans Z4 (Keep.of_wr W5).1
  have N5 := Fr.snoc X5 N4 g_b1
  show own_Fin _ _ _ _ _ _ _ (T5.setTop (mkF m 39 #[.val (.int va), .val (.int vb), .val (.int vc), .val (.int vd), .val (.int ve), .val (.int vf), .val (.ref b1), .unset, .unset, .unset, .unset, .unset, .unset, .unset, .unset, .unset, .unset, .unset] []))
  refine own_Fin.go (fun t k => XS.aload X5.here hx rfl (hb hby at_39) rfl rfl k) ?_
  show own_Fin _ _ _ _ _ _ _ (T5.setTop (mkF m 41 #[.val (.int va), .val (.int vb), .val (.int vc), .val (.int vd), .val (.int ve), .val (.int vf), .val (.ref b1), .unset, .unset, .unset, .unset, .unset, .unset, .unset, .unset, .unset, .unset, .unset] [(.ref b1)]))
  refine own_Fin.go (fun t k => XS.iconst X5.here hx rfl (hb hby at_41) k) ?_
  show own_Fin _ _ _ _ _ _ _ (T5.setTop (mkF m 42 #[.val (.int va), .val (.int vb), .val (.int vc), .val (.int vd), .val (.int ve), .val (.int vf), .val (.ref b1), .unset, .unset, .unset, .unset, .unset, .unset, .unset, .unset, .unset, .unset, .unset] [(.int (4 : Int32)), (.ref b1)]))
  refine own_Fin.go (fun t k => XS.iloadN X5.here hx rfl (hb hby at_42) rfl k) ?_
  show own_Fin _ _ _ _ _ _ _ (T5.setTop (mkF m 43 #[.val (.int va), .val (.int vb), .val (.int vc), .val (.int vd), .val (.int ve), .val (.int vf), .val (.ref b1), .unset, .unset, .unset, .unset, .unset, .unset, .unset, .unset, .unset, .unset, .unset] [(.int vb), (.int (4 : Int32)), (.ref b1)]))
  refine own_Fin.go (fun t k => XS.i2b X5.here hx rfl (hb hby at_43) rfl k) ?_
  show own_Fin _ _ _ _ _ _ _ (T5.setTop (mkF m 44 #[.val (.int va), .val (.int vb), .val (.int vc), .val (.int vd), .val (.int ve), .val (.int vf), .val (.ref b1), .unset, .unset, .unset, .unset, .unset, .unset, .unset, .unset, .unset, .unset, .unset] [(.int (vb.toInt8.toInt32)), (.int (4 : Int32)), (.ref b1)]))
  obtain ⟨cl6, Ar6, q6, S6, N6l, H6, G6⟩ := (id V_b1_5)
  have hin6 : ¬ ((4 : Int32) < 0 ∨ cl6.slots.size ≤ ((4 : Int32)).toNatClampNeg) := inb_of S6 ⟨by decide, by decide⟩
  obtain ⟨T6, h6, X6, e6, W6, st6⟩ := stB X5 hx hZ e5 Ar6 (j := (4 : Int32)) hin6 (g := (mkF m 44 #[.val (.int va), .val (.int vb), .val (.int vc), .val (.int vd), .val (.int ve), .val (.int vf), .val (.ref b1), .unset, .unset, .unset, .unset, .unset, .unset, .unset, .unset, .unset, .unset, .unset] [(.int (vb.toInt8.toInt32)), (.int (4 : Int32)), (.ref b1)])) rfl rfl (hb hby at_44)
  refine own_Fin.go st6 ?_
  have V_b1_6 := Arv.set Ar6 q6 S6 N6l H6 G6 (fits_nar_byte _) W6 4 rfl (Nat.le_of_ble_eq_true rfl)
  replace V_b1_6 : Arv Z h6 b1 k1 .byte (8 : Int32) [(.int (va.toInt8.toInt32).toInt8.toInt32), (.int ((va >>> ((8 : Int32) &&& 31)).toInt8.toInt32).toInt8.toInt32), (.int ((va >>> ((16 : Int32) &&& 31)).toInt8.toInt32).toInt8.toInt32), (.int ((va >>> ((24 : Int32) &&& 31)).toInt8.toInt32).toInt8.toInt32), (.int (vb.toInt8.toInt32).toInt8.toInt32), (.int (0 : Int32)), (.int (0 : Int32)), (.int (0 : Int32))] (.int (0 : Int32)) := V_b1_6
  have Z6 := Nat.le_trans Z5 (Keep.of_wr W6).1
  have N6 := Fr.snoc X6 N5 g_b1
  show own_Fin _ _ _ _ _ _ _ (T6.setTop (mkF m 45 #[.val (.int va), .val (.int vb), .val (.int vc), .val (.int vd), .val (.int ve), .val (.int vf), .val (.ref b1), .unset, .unset, .unset, .unset, .unset, .unset, .unset, .unset, .unset, .unset, .unset] []))
  refine own_Fin.go (fun t k => XS.aload X6.here hx rfl (hb hby at_45) rfl rfl k) ?_
  show own_Fin _ _ _ _ _ _ _ (T6.setTop (mkF m 47 #[.val (.int va), .val (.int vb), .val (.int vc), .val (.int vd), .val (.int ve), .val (.int vf), .val (.ref b1), .unset, .unset, .unset, .unset, .unset, .unset, .unset, .unset, .unset, .unset, .unset] [(.ref b1)]))
  refine own_Fin.go (fun t k => XS.iconst X6.here hx rfl (hb hby at_47) k) ?_
  show own_Fin _ _ _ _ _ _ _ (T6.setTop (mkF m 48 #[.val (.int va), .val (.int vb), .val (.int vc), .val (.int vd), .val (.int ve), .val (.int vf), .val (.ref b1), .unset, .unset, .unset, .unset, .unset, .unset, .unset, .unset, .unset, .unset, .unset] [(.int (5 : Int32)), (.ref b1)]))
  refine own_Fin.go (fun t k => XS.iloadN X6.here hx rfl (hb hby at_48) rfl k) ?_
  show own_Fin _ _ _ _ _ _ _ (T6.setTop (mkF m 49 #[.val (.int va), .val (.int vb), .val (.int vc), .val (.int vd), .val (.int ve), .val (.int vf), .val (.ref b1), .unset, .unset, .unset, .unset, .unset, .unset, .unset, .unset, .unset, .unset, .unset] [(.int vb), (.int (5 : Int32)), (.ref b1)]))
  refine own_Fin.go (fun t k => XS.bipush X6.here hx rfl (hb hby at_49) k) ?_
  show own_Fin _ _ _ _ _ _ _ (T6.setTop (mkF m 51 #[.val (.int va), .val (.int vb), .val (.int vc), .val (.int vd), .val (.int ve), .val (.int vf), .val (.ref b1), .unset, .unset, .unset, .unset, .unset, .unset, .unset, .unset, .unset, .unset, .unset] [(.int (8 : Int32)), (.int vb), (.int (5 : Int32)), (.ref b1)]))
  refine own_Fin.go (fun t k => XS.ishr X6.here hx rfl (hb hby at_51) rfl k) ?_
  show own_Fin _ _ _ _ _ _ _ (T6.setTop (mkF m 52 #[.val (.int va), .val (.int vb), .val (.int vc), .val (.int vd), .val (.int ve), .val (.int vf), .val (.ref b1), .unset, .unset, .unset, .unset, .unset, .unset, .unset, .unset, .unset, .unset, .unset] [(.int (vb >>> ((8 : Int32) &&& 31))), (.int (5 : Int32)), (.ref b1)]))
  refine own_Fin.go (fun t k => XS.i2b X6.here hx rfl (hb hby at_52) rfl k) ?_
  show own_Fin _ _ _ _ _ _ _ (T6.setTop (mkF m 53 #[.val (.int va), .val (.int vb), .val (.int vc), .val (.int vd), .val (.int ve), .val (.int vf), .val (.ref b1), .unset, .unset, .unset, .unset, .unset, .unset, .unset, .unset, .unset, .unset, .unset] [(.int ((vb >>> ((8 : Int32) &&& 31)).toInt8.toInt32)), (.int (5 : Int32)), (.ref b1)]))
  obtain ⟨cl7, Ar7, q7, S7, N7l, H7, G7⟩ := (id V_b1_6)
  have hin7 : ¬ ((5 : Int32) < 0 ∨ cl7.slots.size ≤ ((5 : Int32)).toNatClampNeg) := inb_of S7 ⟨by decide, by decide⟩
  obtain ⟨T7, h7, X7, e7, W7, st7⟩ := stB X6 hx hZ e6 Ar7 (j := (5 : Int32)) hin7 (g := (mkF m 53 #[.val (.int va), .val (.int vb), .val (.int vc), .val (.int vd), .val (.int ve), .val (.int vf), .val (.ref b1), .unset, .unset, .unset, .unset, .unset, .unset, .unset, .unset, .unset, .unset, .unset] [(.int ((vb >>> ((8 : Int32) &&& 31)).toInt8.toInt32)), (.int (5 : Int32)), (.ref b1)])) rfl rfl (hb hby at_53)
  refine own_Fin.go st7 ?_
  have V_b1_7 := Arv.set Ar7 q7 S7 N7l H7 G7 (fits_nar_byte _) W7 5 rfl (Nat.le_of_ble_eq_true rfl)
  replace V_b1_7 : Arv Z h7 b1 k1 .byte (8 : Int32) [(.int (va.toInt8.toInt32).toInt8.toInt32), (.int ((va >>> ((8 : Int32) &&& 31)).toInt8.toInt32).toInt8.toInt32), (.int ((va >>> ((16 : Int32) &&& 31)).toInt8.toInt32).toInt8.toInt32), (.int ((va >>> ((24 : Int32) &&& 31)).toInt8.toInt32).toInt8.toInt32), (.int (vb.toInt8.toInt32).toInt8.toInt32), (.int ((vb >>> ((8 : Int32) &&& 31)).toInt8.toInt32).toInt8.toInt32), (.int (0 : Int32)), (.int (0 : Int32))] (.int (0 : Int32)) := V_b1_7
  have Z7 := Nat.le_trans Z6 (Keep.of_wr W7).1
  have N7 := Fr.snoc X7 N6 g_b1
  show own_Fin _ _ _ _ _ _ _ (T7.setTop (mkF m 54 #[.val (.int va), .val (.int vb), .val (.int vc), .val (.int vd), .val (.int ve), .val (.int vf), .val (.ref b1), .unset, .unset, .unset, .unset, .unset, .unset, .unset, .unset, .unset, .unset, .unset] []))
  refine own_Fin.go (fun t k => XS.aload X7.here hx rfl (hb hby at_54) rfl rfl k) ?_
  show own_Fin _ _ _ _ _ _ _ (T7.setTop (mkF m 56 #[.val (.int va), .val (.int vb), .val (.int vc), .val (.int vd), .val (.int ve), .val (.int vf), .val (.ref b1), .unset, .unset, .unset, .unset, .unset, .unset, .unset, .unset, .unset, .unset, .unset] [(.ref b1)]))
  refine own_Fin.go (fun t k => XS.bipush X7.here hx rfl (hb hby at_56) k) ?_
  show own_Fin _ _ _ _ _ _ _ (T7.setTop (mkF m 58 #[.val (.int va), .val (.int vb), .val (.int vc), .val (.int vd), .val (.int ve), .val (.int vf), .val (.ref b1), .unset, .unset, .unset, .unset, .unset, .unset, .unset, .unset, .unset, .unset, .unset] [(.int (6 : Int32)), (.ref b1)]))
  refine own_Fin.go (fun t k => XS.iloadN X7.here hx rfl (hb hby at_58) rfl k) ?_
  show own_Fin _ _ _ _ _ _ _ (T7.setTop (mkF m 59 #[.val (.int va), .val (.int vb), .val (.int vc), .val (.int vd), .val (.int ve), .val (.int vf), .val (.ref b1), .unset, .unset, .unset, .unset, .unset, .unset, .unset, .unset, .unset, .unset, .unset] [(.int vb), (.int (6 : Int32)), (.ref b1)]))
  refine own_Fin.go (fun t k => XS.bipush X7.here hx rfl (hb hby at_59) k) ?_
  show own_Fin _ _ _ _ _ _ _ (T7.setTop (mkF m 61 #[.val (.int va), .val (.int vb), .val (.int vc), .val (.int vd), .val (.int ve), .val (.int vf), .val (.ref b1), .unset, .unset, .unset, .unset, .unset, .unset, .unset, .unset, .unset, .unset, .unset] [(.int (16 : Int32)), (.int vb), (.int (6 : Int32)), (.ref b1)]))
  refine own_Fin.go (fun t k => XS.ishr X7.here hx rfl (hb hby at_61) rfl k) ?_
  show own_Fin _ _ _ _ _ _ _ (T7.setTop (mkF m 62 #[.val (.int va), .val (.int vb), .val (.int vc), .val (.int vd), .val (.int ve), .val (.int vf), .val (.ref b1), .unset, .unset, .unset, .unset, .unset, .unset, .unset, .unset, .unset, .unset, .unset] [(.int (vb >>> ((16 : Int32) &&& 31))), (.int (6 : Int32)), (.ref b1)]))
  refine own_Fin.go (fun t k => XS.i2b X7.here hx rfl (hb hby at_62) rfl k) ?_
  show own_Fin _ _ _ _ _ _ _ (T7.setTop (mkF m 63 #[.val (.int va), .val (.int vb), .val (.int vc), .val (.int vd), .val (.int ve), .val (.int vf), .val (.ref b1), .unset, .unset, .unset, .unset, .unset, .unset, .unset, .unset, .unset, .unset, .unset] [(.int ((vb >>> ((16 : Int32) &&& 31)).toInt8.toInt32)), (.int (6 : Int32)), (.ref b1)]))
  obtain ⟨cl8, Ar8, q8, S8, N8l, H8, G8⟩ := (id V_b1_7)
  have hin8 : ¬ ((6 : Int32) < 0 ∨ cl8.slots.size ≤ ((6 : Int32)).toNatClampNeg) := inb_of S8 ⟨by decide, by decide⟩
  obtain ⟨T8, h8, X8, e8, W8, st8⟩ := stB X7 hx hZ e7 Ar8 (j := (6 : Int32)) hin8 (g := (mkF m 63 #[.val (.int va), .val (.int vb), .val (.int vc), .val (.int vd), .val (.int ve), .val (.int vf), .val (.ref b1), .unset, .unset, .unset, .unset, .unset, .unset, .unset, .unset, .unset, .unset, .unset] [(.int ((vb >>> ((16 : Int32) &&& 31)).toInt8.toInt32)), (.int (6 : Int32)), (.ref b1)])) rfl rfl (hb hby at_63)
  refine own_Fin.go st8 ?_
  have V_b1_8 := Arv.set Ar8 q8 S8 N8l H8 G8 (fits_nar_byte _) W8 6 rfl (Nat.le_of_ble_eq_true rfl)
  replace V_b1_8 : Arv Z h8 b1 k1 .byte (8 : Int32) [(.int (va.toInt8.toInt32).toInt8.toInt32), (.int ((va >>> ((8 : Int32) &&& 31)).toInt8.toInt32).toInt8.toInt32), (.int ((va >>> ((16 : Int32) &&& 31)).toInt8.toInt32).toInt8.toInt32), (.int ((va >>> ((24 : Int32) &&& 31)).toInt8.toInt32).toInt8.toInt32), (.int (vb.toInt8.toInt32).toInt8.toInt32), (.int ((vb >>> ((8 : Int32) &&& 31)).toInt8.toInt32).toInt8.toInt32), (.int ((vb >>> ((16 : Int32) &&& 31)).toInt8.toInt32).toInt8.toInt32), (.int (0 : Int32))] (.int (0 : Int32)) := V_b1_8
  have Z8 := Nat.le_trans Z7 (Keep.of_wr W8).1
  have N8 := Fr.snoc X8 N7 g_b1
  show own_Fin _ _ _ _ _ _ _ (T8.setTop (mkF m 64 #[.val (.int va), .val (.int vb), .val (.int vc), .val (.int vd), .val (.int ve), .val (.int vf), .val (.ref b1), .unset, .unset, .unset, .unset, .unset, .unset, .unset, .unset, .unset, .unset, .unset] []))
  refine own_Fin.go (fun t k => XS.aload X8.here hx rfl (hb hby at_64) rfl rfl k) ?_
  show own_Fin _ _ _ _ _ _ _ (T8.setTop (mkF m 66 #[.val (.int va), .val (.int vb), .val (.int vc), .val (.int vd), .val (.int ve), .val (.int vf), .val (.ref b1), .unset, .unset, .unset, .unset, .unset, .unset, .unset, .unset, .unset, .unset, .unset] [(.ref b1)]))
  refine own_Fin.go (fun t k => XS.bipush X8.here hx rfl (hb hby at_66) k) ?_
  show own_Fin _ _ _ _ _ _ _ (T8.setTop (mkF m 68 #[.val (.int va), .val (.int vb), .val (.int vc), .val (.int vd), .val (.int ve), .val (.int vf), .val (.ref b1), .unset, .unset, .unset, .unset, .unset, .unset, .unset, .unset, .unset, .unset, .unset] [(.int (7 : Int32)), (.ref b1)]))
  refine own_Fin.go (fun t k => XS.iloadN X8.here hx rfl (hb hby at_68) rfl k) ?_
  show own_Fin _ _ _ _ _ _ _ (T8.setTop (mkF m 69 #[.val (.int va), .val (.int vb), .val (.int vc), .val (.int vd), .val (.int ve), .val (.int vf), .val (.ref b1), .unset, .unset, .unset, .unset, .unset, .unset, .unset, .unset, .unset, .unset, .unset] [(.int vb), (.int (7 : Int32)), (.ref b1)]))
  refine own_Fin.go (fun t k => XS.bipush X8.here hx rfl (hb hby at_69) k) ?_
  show own_Fin _ _ _ _ _ _ _ (T8.setTop (mkF m 71 #[.val (.int va), .val (.int vb), .val (.int vc), .val (.int vd), .val (.int ve), .val (.int vf), .val (.ref b1), .unset, .unset, .unset, .unset, .unset, .unset, .unset, .unset, .unset, .unset, .unset] [(.int (24 : Int32)), (.int vb), (.int (7 : Int32)), (.ref b1)]))
  refine own_Fin.go (fun t k => XS.ishr X8.here hx rfl (hb hby at_71) rfl k) ?_
  show own_Fin _ _ _ _ _ _ _ (T8.setTop (mkF m 72 #[.val (.int va), .val (.int vb), .val (.int vc), .val (.int vd), .val (.int ve), .val (.int vf), .val (.ref b1), .unset, .unset, .unset, .unset, .unset, .unset, .unset, .unset, .unset, .unset, .unset] [(.int (vb >>> ((24 : Int32) &&& 31))), (.int (7 : Int32)), (.ref b1)]))
  refine own_Fin.go (fun t k => XS.i2b X8.here hx rfl (hb hby at_72) rfl k) ?_
  show own_Fin _ _ _ _ _ _ _ (T8.setTop (mkF m 73 #[.val (.int va), .val (.int vb), .val (.int vc), .val (.int vd), .val (.int ve), .val (.int vf), .val (.ref b1), .unset, .unset, .unset, .unset, .unset, .unset, .unset, .unset, .unset, .unset, .unset] [(.int ((vb >>> ((24 : Int32) &&& 31)).toInt8.toInt32)), (.int (7 : Int32)), (.ref b1)]))
  obtain ⟨cl9, Ar9, q9, S9, N9l, H9, G9⟩ := (id V_b1_8)
  have hin9 : ¬ ((7 : Int32) < 0 ∨ cl9.slots.size ≤ ((7 : Int32)).toNatClampNeg) := inb_of S9 ⟨by decide, by decide⟩
  obtain ⟨T9, h9, X9, e9, W9, st9⟩ := stB X8 hx hZ e8 Ar9 (j := (7 : Int32)) hin9 (g := (mkF m 73 #[.val (.int va), .val (.int vb), .val (.int vc), .val (.int vd), .val (.int ve), .val (.int vf), .val (.ref b1), .unset, .unset, .unset, .unset, .unset, .unset, .unset, .unset, .unset, .unset, .unset] [(.int ((vb >>> ((24 : Int32) &&& 31)).toInt8.toInt32)), (.int (7 : Int32)), (.ref b1)])) rfl rfl (hb hby at_73)
  refine own_Fin.go st9 ?_
  have V_b1_9 := Arv.set Ar9 q9 S9 N9l H9 G9 (fits_nar_byte _) W9 7 rfl (Nat.le_of_ble_eq_true rfl)
  replace V_b1_9 : Arv Z h9 b1 k1 .byte (8 : Int32) [(.int (va.toInt8.toInt32).toInt8.toInt32), (.int ((va >>> ((8 : Int32) &&& 31)).toInt8.toInt32).toInt8.toInt32), (.int ((va >>> ((16 : Int32) &&& 31)).toInt8.toInt32).toInt8.toInt32), (.int ((va >>> ((24 : Int32) &&& 31)).toInt8.toInt32).toInt8.toInt32), (.int (vb.toInt8.toInt32).toInt8.toInt32), (.int ((vb >>> ((8 : Int32) &&& 31)).toInt8.toInt32).toInt8.toInt32), (.int ((vb >>> ((16 : Int32) &&& 31)).toInt8.toInt32).toInt8.toInt32), (.int ((vb >>> ((24 : Int32) &&& 31)).toInt8.toInt32).toInt8.toInt32)] (.int (0 : Int32)) := V_b1_9
  have Z9 := Nat.le_trans Z8 (Keep.of_wr W9).1
  have N9 := Fr.snoc X9 N8 g_b1
  show own_Fin _ _ _ _ _ _ _ (T9.setTop (mkF m 74 #[.val (.int va), .val (.int vb), .val (.int vc), .val (.int vd), .val (.int ve), .val (.int vf), .val (.ref b1), .unset, .unset, .unset, .unset, .unset, .unset, .unset, .unset, .unset, .unset, .unset] []))
  obtain ⟨LS, VS⟩ : ∃ LS : List Int32, Arv Z h9 b1 k1 .byte (8 : Int32) (LS.map Value.int) (.int (0 : Int32)) := ⟨[(va.toInt8.toInt32).toInt8.toInt32, ((va >>> ((8 : Int32) &&& 31)).toInt8.toInt32).toInt8.toInt32, ((va >>> ((16 : Int32) &&& 31)).toInt8.toInt32).toInt8.toInt32, ((va >>> ((24 : Int32) &&& 31)).toInt8.toInt32).toInt8.toInt32, (vb.toInt8.toInt32).toInt8.toInt32, ((vb >>> ((8 : Int32) &&& 31)).toInt8.toInt32).toInt8.toInt32, ((vb >>> ((16 : Int32) &&& 31)).toInt8.toInt32).toInt8.toInt32, ((vb >>> ((24 : Int32) &&& 31)).toInt8.toInt32).toInt8.toInt32], V_b1_9⟩
  have J138 : ∀ (oA : Int32) (nA : Int32) (oB : Int32) (nB : Int32) (oC : Int32) (nC : Int32) (hJ138 : own_bd oA nA ∧ own_bd oB nB ∧ own_bd oC nC), own_Fin p e below s (own_Q_law Z va vb vc vd ve vf h0 n0) room_1.cells room_1.slots (T9.setTop (mkF m 138 #[.val (.int va), .val (.int vb), .val (.int vc), .val (.int vd), .val (.int ve), .val (.int vf), .val (.ref b1), .val (.int oA), .val (.int nA), .val (.int oB), .val (.int nB), .val (.int oC), .val (.int nC), .unset, .unset, .unset, .unset, .unset] [])) := by
    intro oA nA oB nB oC nC hJ138
    refine own_Fin.go (fun t k => XS.iloadN X9.here hx rfl (hb hby at_138) rfl k) ?_
    show own_Fin _ _ _ _ _ _ _ (T9.setTop (mkF m 139 #[.val (.int va), .val (.int vb), .val (.int vc), .val (.int vd), .val (.int ve), .val (.int vf), .val (.ref b1), .val (.int oA), .val (.int nA), .val (.int oB), .val (.int nB), .val (.int oC), .val (.int nC), .unset, .unset, .unset, .unset, .unset] [(.int vc)]))
    refine own_Fin.go (fun t k => XS.iconst X9.here hx rfl (hb hby at_139) k) ?_
    show own_Fin _ _ _ _ _ _ _ (T9.setTop (mkF m 140 #[.val (.int va), .val (.int vb), .val (.int vc), .val (.int vd), .val (.int ve), .val (.int vf), .val (.ref b1), .val (.int oA), .val (.int nA), .val (.int oB), .val (.int nB), .val (.int oC), .val (.int nC), .unset, .unset, .unset, .unset, .unset] [(.int (1 : Int32)), (.int vc)]))
    refine own_Fin.go (fun t k => XS.iand X9.here hx rfl (hb hby at_140) rfl k) ?_
    show own_Fin _ _ _ _ _ _ _ (T9.setTop (mkF m 141 #[.val (.int va), .val (.int vb), .val (.int vc), .val (.int vd), .val (.int ve), .val (.int vf), .val (.ref b1), .val (.int oA), .val (.int nA), .val (.int oB), .val (.int nB), .val (.int oC), .val (.int nC), .unset, .unset, .unset, .unset, .unset] [(.int (vc &&& (1 : Int32)))]))
    by_cases hc141 : (vc &&& (1 : Int32)) = (0 : Int32)
    · refine own_Fin.go (fun t k => XS.ifYes X9.here hx rfl (pc0 := 141) (pc' := 148) rfl (hb hby at_141) rfl (Jvm.Free.XT.i0_eq_t hc141) (by decide) (by decide) k) ?_
      show own_Fin _ _ _ _ _ _ _ (T9.setTop (mkF m 148 #[.val (.int va), .val (.int vb), .val (.int vc), .val (.int vd), .val (.int ve), .val (.int vf), .val (.ref b1), .val (.int oA), .val (.int nA), .val (.int oB), .val (.int nB), .val (.int oC), .val (.int nC), .unset, .unset, .unset, .unset, .unset] []))
      refine own_Fin.go (fun t k => XS.iconst X9.here hx rfl (hb hby at_148) k) ?_
      show own_Fin _ _ _ _ _ _ _ (T9.setTop (mkF m 149 #[.val (.int va), .val (.int vb), .val (.int vc), .val (.int vd), .val (.int ve), .val (.int vf), .val (.ref b1), .val (.int oA), .val (.int nA), .val (.int oB), .val (.int nB), .val (.int oC), .val (.int nC), .unset, .unset, .unset, .unset, .unset] [(.int (0 : Int32))]))
      refine own_Fin.go (fun t k => XS.istore X9.here hx rfl (hb hby at_149) rfl (l' := #[.val (.int va), .val (.int vb), .val (.int vc), .val (.int vd), .val (.int ve), .val (.int vf), .val (.ref b1), .val (.int oA), .val (.int nA), .val (.int oB), .val (.int nB), .val (.int oC), .val (.int nC), .val (.int (0 : Int32)), .unset, .unset, .unset, .unset]) rfl k) ?_
      show own_Fin _ _ _ _ _ _ _ (T9.setTop (mkF m 151 #[.val (.int va), .val (.int vb), .val (.int vc), .val (.int vd), .val (.int ve), .val (.int vf), .val (.ref b1), .val (.int oA), .val (.int nA), .val (.int oB), .val (.int nB), .val (.int oC), .val (.int nC), .val (.int (0 : Int32)), .unset, .unset, .unset, .unset] []))
      refine own_Fin.go (fun t k => XS.iloadN X9.here hx rfl (hb hby at_151) rfl k) ?_
      show own_Fin _ _ _ _ _ _ _ (T9.setTop (mkF m 152 #[.val (.int va), .val (.int vb), .val (.int vc), .val (.int vd), .val (.int ve), .val (.int vf), .val (.ref b1), .val (.int oA), .val (.int nA), .val (.int oB), .val (.int nB), .val (.int oC), .val (.int nC), .val (.int (0 : Int32)), .unset, .unset, .unset, .unset] [(.int vc)]))
      refine own_Fin.go (fun t k => XS.iconst X9.here hx rfl (hb hby at_152) k) ?_
      show own_Fin _ _ _ _ _ _ _ (T9.setTop (mkF m 153 #[.val (.int va), .val (.int vb), .val (.int vc), .val (.int vd), .val (.int ve), .val (.int vf), .val (.ref b1), .val (.int oA), .val (.int nA), .val (.int oB), .val (.int nB), .val (.int oC), .val (.int nC), .val (.int (0 : Int32)), .unset, .unset, .unset, .unset] [(.int (2 : Int32)), (.int vc)]))
      refine own_Fin.go (fun t k => XS.iand X9.here hx rfl (hb hby at_153) rfl k) ?_
      show own_Fin _ _ _ _ _ _ _ (T9.setTop (mkF m 154 #[.val (.int va), .val (.int vb), .val (.int vc), .val (.int vd), .val (.int ve), .val (.int vf), .val (.ref b1), .val (.int oA), .val (.int nA), .val (.int oB), .val (.int nB), .val (.int oC), .val (.int nC), .val (.int (0 : Int32)), .unset, .unset, .unset, .unset] [(.int (vc &&& (2 : Int32)))]))
      by_cases hc154 : (vc &&& (2 : Int32)) = (0 : Int32)
      · refine own_Fin.go (fun t k => XS.ifYes X9.here hx rfl (pc0 := 154) (pc' := 161) rfl (hb hby at_154) rfl (Jvm.Free.XT.i0_eq_t hc154) (by decide) (by decide) k) ?_
        show own_Fin _ _ _ _ _ _ _ (T9.setTop (mkF m 161 #[.val (.int va), .val (.int vb), .val (.int vc), .val (.int vd), .val (.int ve), .val (.int vf), .val (.ref b1), .val (.int oA), .val (.int nA), .val (.int oB), .val (.int nB), .val (.int oC), .val (.int nC), .val (.int (0 : Int32)), .unset, .unset, .unset, .unset] []))
        refine own_Fin.go (fun t k => XS.iconst X9.here hx rfl (hb hby at_161) k) ?_
        show own_Fin _ _ _ _ _ _ _ (T9.setTop (mkF m 162 #[.val (.int va), .val (.int vb), .val (.int vc), .val (.int vd), .val (.int ve), .val (.int vf), .val (.ref b1), .val (.int oA), .val (.int nA), .val (.int oB), .val (.int nB), .val (.int oC), .val (.int nC), .val (.int (0 : Int32)), .unset, .unset, .unset, .unset] [(.int (0 : Int32))]))
        refine own_Fin.go (fun t k => XS.istore X9.here hx rfl (hb hby at_162) rfl (l' := #[.val (.int va), .val (.int vb), .val (.int vc), .val (.int vd), .val (.int ve), .val (.int vf), .val (.ref b1), .val (.int oA), .val (.int nA), .val (.int oB), .val (.int nB), .val (.int oC), .val (.int nC), .val (.int (0 : Int32)), .val (.int (0 : Int32)), .unset, .unset, .unset]) rfl k) ?_
        show own_Fin _ _ _ _ _ _ _ (T9.setTop (mkF m 164 #[.val (.int va), .val (.int vb), .val (.int vc), .val (.int vd), .val (.int ve), .val (.int vf), .val (.ref b1), .val (.int oA), .val (.int nA), .val (.int oB), .val (.int nB), .val (.int oC), .val (.int nC), .val (.int (0 : Int32)), .val (.int (0 : Int32)), .unset, .unset, .unset] []))
        refine own_Fin.go (fun t k => XS.iloadN X9.here hx rfl (hb hby at_164) rfl k) ?_
        show own_Fin _ _ _ _ _ _ _ (T9.setTop (mkF m 165 #[.val (.int va), .val (.int vb), .val (.int vc), .val (.int vd), .val (.int ve), .val (.int vf), .val (.ref b1), .val (.int oA), .val (.int nA), .val (.int oB), .val (.int nB), .val (.int oC), .val (.int nC), .val (.int (0 : Int32)), .val (.int (0 : Int32)), .unset, .unset, .unset] [(.int vc)]))
        refine own_Fin.go (fun t k => XS.iconst X9.here hx rfl (hb hby at_165) k) ?_
        show own_Fin _ _ _ _ _ _ _ (T9.setTop (mkF m 166 #[.val (.int va), .val (.int vb), .val (.int vc), .val (.int vd), .val (.int ve), .val (.int vf), .val (.ref b1), .val (.int oA), .val (.int nA), .val (.int oB), .val (.int nB), .val (.int oC), .val (.int nC), .val (.int (0 : Int32)), .val (.int (0 : Int32)), .unset, .unset, .unset] [(.int (4 : Int32)), (.int vc)]))
        refine own_Fin.go (fun t k => XS.iand X9.here hx rfl (hb hby at_166) rfl k) ?_
        show own_Fin _ _ _ _ _ _ _ (T9.setTop (mkF m 167 #[.val (.int va), .val (.int vb), .val (.int vc), .val (.int vd), .val (.int ve), .val (.int vf), .val (.ref b1), .val (.int oA), .val (.int nA), .val (.int oB), .val (.int nB), .val (.int oC), .val (.int nC), .val (.int (0 : Int32)), .val (.int (0 : Int32)), .unset, .unset, .unset] [(.int (vc &&& (4 : Int32)))]))
        by_cases hc167 : (vc &&& (4 : Int32)) = (0 : Int32)
        · refine own_Fin.go (fun t k => XS.ifYes X9.here hx rfl (pc0 := 167) (pc' := 174) rfl (hb hby at_167) rfl (Jvm.Free.XT.i0_eq_t hc167) (by decide) (by decide) k) ?_
          show own_Fin _ _ _ _ _ _ _ (T9.setTop (mkF m 174 #[.val (.int va), .val (.int vb), .val (.int vc), .val (.int vd), .val (.int ve), .val (.int vf), .val (.ref b1), .val (.int oA), .val (.int nA), .val (.int oB), .val (.int nB), .val (.int oC), .val (.int nC), .val (.int (0 : Int32)), .val (.int (0 : Int32)), .unset, .unset, .unset] []))
          refine own_Fin.go (fun t k => XS.iconst X9.here hx rfl (hb hby at_174) k) ?_
          show own_Fin _ _ _ _ _ _ _ (T9.setTop (mkF m 175 #[.val (.int va), .val (.int vb), .val (.int vc), .val (.int vd), .val (.int ve), .val (.int vf), .val (.ref b1), .val (.int oA), .val (.int nA), .val (.int oB), .val (.int nB), .val (.int oC), .val (.int nC), .val (.int (0 : Int32)), .val (.int (0 : Int32)), .unset, .unset, .unset] [(.int (0 : Int32))]))
          refine own_Fin.go (fun t k => XS.istore X9.here hx rfl (hb hby at_175) rfl (l' := #[.val (.int va), .val (.int vb), .val (.int vc), .val (.int vd), .val (.int ve), .val (.int vf), .val (.ref b1), .val (.int oA), .val (.int nA), .val (.int oB), .val (.int nB), .val (.int oC), .val (.int nC), .val (.int (0 : Int32)), .val (.int (0 : Int32)), .val (.int (0 : Int32)), .unset, .unset]) rfl k) ?_
          show own_Fin _ _ _ _ _ _ _ (T9.setTop (mkF m 177 #[.val (.int va), .val (.int vb), .val (.int vc), .val (.int vd), .val (.int ve), .val (.int vf), .val (.ref b1), .val (.int oA), .val (.int nA), .val (.int oB), .val (.int nB), .val (.int oC), .val (.int nC), .val (.int (0 : Int32)), .val (.int (0 : Int32)), .val (.int (0 : Int32)), .unset, .unset] []))
          obtain ⟨T10, h10, X10, e10, E10, A10, D10, -, st10⟩ := newO X9 hx hZ hown (hw _ (List.mem_of_getElem? (i := 1) rfl)) (hw _ (List.mem_of_getElem? (i := 2) rfl)) (hw _ (List.mem_of_getElem? (i := 3) rfl)) e9 (g := (mkF m 177 #[.val (.int va), .val (.int vb), .val (.int vc), .val (.int vd), .val (.int ve), .val (.int vf), .val (.ref b1), .val (.int oA), .val (.int nA), .val (.int oB), .val (.int nB), .val (.int oC), .val (.int nC), .val (.int (0 : Int32)), .val (.int (0 : Int32)), .val (.int (0 : Int32)), .unset, .unset] [])) rfl (hb hby at_177) (by decide) (by decide)
          obtain ⟨b10, g10⟩ : ∃ z, z = h9.size := ⟨_, rfl⟩
          rw [← g10] at A10 D10 st10
          refine own_Fin.go st10 ?_
          have g_b10 : n0 ≤ b10 := Nat.le_trans Z9 (Nat.le_of_eq g10.symm)
          have ne_b1_b10 : b1 ≠ b10 := Nat.ne_of_lt (Nat.lt_of_lt_of_le VS.lt (Nat.le_of_eq g10.symm))
          have VS_10 := VS.ext E10
          have Z10 := Nat.le_trans Z9 E10.1
          have F_b10_bytes : Fld Z h10 b10 "com/example/wardkeeper/wardkeeper/hl7/Lines" "bytes" "[B" .null := D10 (Or.inl (hw _ (List.mem_of_getElem? (i := 11) rfl))) (ty := (.array .byte)) (by decide)
          have F_b10_ends : Fld Z h10 b10 "com/example/wardkeeper/wardkeeper/hl7/Lines" "ends" "[I" .null := D10 (Or.inl (hw _ (List.mem_of_getElem? (i := 14) rfl))) (ty := (.array .int)) (by decide)
          have F_b10_count : Fld Z h10 b10 "com/example/wardkeeper/wardkeeper/hl7/Lines" "count" "I" (.int (0 : Int32)) := D10 (Or.inl (hw _ (List.mem_of_getElem? (i := 21) rfl))) (ty := .int) (by decide)
          show own_Fin _ _ _ _ _ _ _ (T10.setTop (mkF m 180 #[.val (.int va), .val (.int vb), .val (.int vc), .val (.int vd), .val (.int ve), .val (.int vf), .val (.ref b1), .val (.int oA), .val (.int nA), .val (.int oB), .val (.int nB), .val (.int oC), .val (.int nC), .val (.int (0 : Int32)), .val (.int (0 : Int32)), .val (.int (0 : Int32)), .unset, .unset] [(.ref b10)]))
          refine own_Fin.go (fun t k => XS.dup X10.here hx rfl (hb hby at_180) rfl rfl k) ?_
          show own_Fin _ _ _ _ _ _ _ (T10.setTop (mkF m 181 #[.val (.int va), .val (.int vb), .val (.int vc), .val (.int vd), .val (.int ve), .val (.int vf), .val (.ref b1), .val (.int oA), .val (.int nA), .val (.int oB), .val (.int nB), .val (.int oC), .val (.int nC), .val (.int (0 : Int32)), .val (.int (0 : Int32)), .val (.int (0 : Int32)), .unset, .unset] [(.ref b10), (.ref b10)]))
          obtain ⟨_, _, ⟨T11, L11, k11, n11⟩, -, X11, ⟨Lc11, hQ11, l11, y11, z11⟩, st11⟩ := X10.specialBack hx (y := (⟨"com/example/wardkeeper/wardkeeper/hl7/Lines", "<init>", "()V"⟩ : MethodName)) rfl hown (mvT hZ (hw _ (List.mem_of_getElem? (i := 4) rfl))) (mvT hZ (hw _ (List.mem_of_getElem? (i := 5) rfl))) (mvT hZ (hw _ (List.mem_of_getElem? (i := 6) rfl))) (by decide) (backOf (W := 1) (own_rm_ini l Z a0 hw [] b10  h10 n0 Z10 A10 F_b10_bytes F_b10_ends F_b10_count g_b10) hZ (hw _ (List.mem_of_getElem? (i := 6) rfl)) (hw _ (List.mem_of_getElem? (i := 3) rfl)) (by decide) (by decide)) (g := (mkF m 181 #[.val (.int va), .val (.int vb), .val (.int vc), .val (.int vd), .val (.int ve), .val (.int vf), .val (.ref b1), .val (.int oA), .val (.int nA), .val (.int oB), .val (.int nB), .val (.int oC), .val (.int nC), .val (.int (0 : Int32)), .val (.int (0 : Int32)), .val (.int (0 : Int32)), .unset, .unset] [(.ref b10), (.ref b10)])) rfl (by rw [hml]; rfl) (Steps.refl _) (a := b10) (argsL := []) (rest := [(.ref b10)]) (lenOf own_pd3 rfl) rfl (by show 2 * 0 + _ ≤ _; exact Nat.le_of_eq rfl) (hb hby at_181) (fun _ _ => ⟨rfl, e10, (by decide : 2 + 2 ≤ _), (by decide : 11 + 1040 ≤ _)⟩)
          dsimp only [Pt.U, Pt.locs, Pt.cells, Pt.slots] at X11 l11 y11 z11 st11 hQ11
          subst l11 y11 z11
          obtain ⟨ob11, oe11, kb11, ke11, rfl, N11q, K11q, c11_1, c11_2, c11_3, c11_4, c11_5, c11_6, c11_7, c11_8, c11_9, c11_10, c11_11⟩ := hQ11
          refine own_Fin.go (fun t k => st11.trans k) ?_
          have N11 := Fr.app N9 N11q
          have VS_11 := VS_10.keep K11q (ninS ne_b1_b10 nin0)
          have Z11 := Nat.le_trans Z10 K11q.1
          have ne_b1_ob11 : b1 ≠ ob11 := Nat.ne_of_lt (Nat.lt_of_lt_of_le VS_10.lt c11_7)
          have ne_b10_ob11 : b10 ≠ ob11 := Nat.ne_of_lt (Nat.lt_of_lt_of_le F_b10_count.lt c11_7)
          have g_ob11 : n0 ≤ ob11 := Nat.le_trans Z10 c11_7
          have ne_b1_oe11 : b1 ≠ oe11 := Nat.ne_of_lt (Nat.lt_of_lt_of_le VS_10.lt c11_8)
          have ne_b10_oe11 : b10 ≠ oe11 := Nat.ne_of_lt (Nat.lt_of_lt_of_le F_b10_count.lt c11_8)
          have g_oe11 : n0 ≤ oe11 := Nat.le_trans Z10 c11_8
          show own_Fin _ _ _ _ _ _ _ (T11.setTop (mkF m 184 #[.val (.int va), .val (.int vb), .val (.int vc), .val (.int vd), .val (.int ve), .val (.int vf), .val (.ref b1), .val (.int oA), .val (.int nA), .val (.int oB), .val (.int nB), .val (.int oC), .val (.int nC), .val (.int (0 : Int32)), .val (.int (0 : Int32)), .val (.int (0 : Int32)), .unset, .unset] [(.ref b10)]))
          refine own_Fin.go (fun t k => XS.astore X11.here hx rfl (hb hby at_184) rfl rfl (l' := #[.val (.int va), .val (.int vb), .val (.int vc), .val (.int vd), .val (.int ve), .val (.int vf), .val (.ref b1), .val (.int oA), .val (.int nA), .val (.int oB), .val (.int nB), .val (.int oC), .val (.int nC), .val (.int (0 : Int32)), .val (.int (0 : Int32)), .val (.int (0 : Int32)), .val (.ref b10), .unset]) rfl k) ?_
          show own_Fin _ _ _ _ _ _ _ (T11.setTop (mkF m 186 #[.val (.int va), .val (.int vb), .val (.int vc), .val (.int vd), .val (.int ve), .val (.int vf), .val (.ref b1), .val (.int oA), .val (.int nA), .val (.int oB), .val (.int nB), .val (.int oC), .val (.int nC), .val (.int (0 : Int32)), .val (.int (0 : Int32)), .val (.int (0 : Int32)), .val (.ref b10), .unset] []))
          refine own_Fin.go (fun t k => XS.iload X11.here hx rfl (hb hby at_186) rfl k) ?_
          show own_Fin _ _ _ _ _ _ _ (T11.setTop (mkF m 188 #[.val (.int va), .val (.int vb), .val (.int vc), .val (.int vd), .val (.int ve), .val (.int vf), .val (.ref b1), .val (.int oA), .val (.int nA), .val (.int oB), .val (.int nB), .val (.int oC), .val (.int nC), .val (.int (0 : Int32)), .val (.int (0 : Int32)), .val (.int (0 : Int32)), .val (.ref b10), .unset] [(.int (0 : Int32))]))
          refine own_Fin.go (fun t k => XS.ifYes X11.here hx rfl (pc0 := 188) (pc' := 202) rfl (hb hby at_188) rfl (by decide) (by decide) (by decide) k) ?_
          show own_Fin _ _ _ _ _ _ _ (T11.setTop (mkF m 202 #[.val (.int va), .val (.int vb), .val (.int vc), .val (.int vd), .val (.int ve), .val (.int vf), .val (.ref b1), .val (.int oA), .val (.int nA), .val (.int oB), .val (.int nB), .val (.int oC), .val (.int nC), .val (.int (0 : Int32)), .val (.int (0 : Int32)), .val (.int (0 : Int32)), .val (.ref b10), .unset] []))
          refine own_Fin.go (fun t k => XS.iload X11.here hx rfl (hb hby at_202) rfl k) ?_
          show own_Fin _ _ _ _ _ _ _ (T11.setTop (mkF m 204 #[.val (.int va), .val (.int vb), .val (.int vc), .val (.int vd), .val (.int ve), .val (.int vf), .val (.ref b1), .val (.int oA), .val (.int nA), .val (.int oB), .val (.int nB), .val (.int oC), .val (.int nC), .val (.int (0 : Int32)), .val (.int (0 : Int32)), .val (.int (0 : Int32)), .val (.ref b10), .unset] [(.int (0 : Int32))]))
          refine own_Fin.go (fun t k => XS.ifYes X11.here hx rfl (pc0 := 204) (pc' := 212) rfl (hb hby at_204) rfl (by decide) (by decide) (by decide) k) ?_
          show own_Fin _ _ _ _ _ _ _ (T11.setTop (mkF m 212 #[.val (.int va), .val (.int vb), .val (.int vc), .val (.int vd), .val (.int ve), .val (.int vf), .val (.ref b1), .val (.int oA), .val (.int nA), .val (.int oB), .val (.int nB), .val (.int oC), .val (.int nC), .val (.int (0 : Int32)), .val (.int (0 : Int32)), .val (.int (0 : Int32)), .val (.ref b10), .unset] []))
          refine own_Fin.go (fun t k => XS.aload X11.here hx rfl (hb hby at_212) rfl rfl k) ?_
          show own_Fin _ _ _ _ _ _ _ (T11.setTop (mkF m 214 #[.val (.int va), .val (.int vb), .val (.int vc), .val (.int vd), .val (.int ve), .val (.int vf), .val (.ref b1), .val (.int oA), .val (.int nA), .val (.int oB), .val (.int nB), .val (.int oC), .val (.int nC), .val (.int (0 : Int32)), .val (.int (0 : Int32)), .val (.int (0 : Int32)), .val (.ref b10), .unset] [(.ref b10)]))
          refine own_Fin.go (fun t k => XS.aload X11.here hx rfl (hb hby at_214) rfl rfl k) ?_
          show own_Fin _ _ _ _ _ _ _ (T11.setTop (mkF m 216 #[.val (.int va), .val (.int vb), .val (.int vc), .val (.int vd), .val (.int ve), .val (.int vf), .val (.ref b1), .val (.int oA), .val (.int nA), .val (.int oB), .val (.int nB), .val (.int oC), .val (.int nC), .val (.int (0 : Int32)), .val (.int (0 : Int32)), .val (.int (0 : Int32)), .val (.ref b10), .unset] [(.ref b1), (.ref b10)]))
          refine own_Fin.go (fun t k => XS.iload X11.here hx rfl (hb hby at_216) rfl k) ?_
          show own_Fin _ _ _ _ _ _ _ (T11.setTop (mkF m 218 #[.val (.int va), .val (.int vb), .val (.int vc), .val (.int vd), .val (.int ve), .val (.int vf), .val (.ref b1), .val (.int oA), .val (.int nA), .val (.int oB), .val (.int nB), .val (.int oC), .val (.int nC), .val (.int (0 : Int32)), .val (.int (0 : Int32)), .val (.int (0 : Int32)), .val (.ref b10), .unset] [(.int oB), (.ref b1), (.ref b10)]))
          refine own_Fin.go (fun t k => XS.iload X11.here hx rfl (hb hby at_218) rfl k) ?_
          show own_Fin _ _ _ _ _ _ _ (T11.setTop (mkF m 220 #[.val (.int va), .val (.int vb), .val (.int vc), .val (.int vd), .val (.int ve), .val (.int vf), .val (.ref b1), .val (.int oA), .val (.int nA), .val (.int oB), .val (.int nB), .val (.int oC), .val (.int nC), .val (.int (0 : Int32)), .val (.int (0 : Int32)), .val (.int (0 : Int32)), .val (.ref b10), .unset] [(.int nB), (.int oB), (.ref b1), (.ref b10)]))
          obtain ⟨cq12, kq12, q12a, q12b, q12c⟩ := isOf hZ rfl c11_1
          obtain ⟨_, _, ⟨T12, L12, k12, n12⟩, -, X12, ⟨Lc12, hQ12, l12, y12, z12⟩, st12⟩ := X11.virtualBack hx (y := (⟨"com/example/wardkeeper/wardkeeper/hl7/Lines", "add", "([BII)V"⟩ : MethodName)) (z := (⟨"com/example/wardkeeper/wardkeeper/hl7/Lines", "add", "([BII)V"⟩ : MethodName)) hown (mvT hZ (hw _ (List.mem_of_getElem? (i := 22) rfl))) (mvT hZ (hw _ (List.mem_of_getElem? (i := 23) rfl))) (notFace_of_selects (args := #[]) (mvT hZ (hw _ (List.mem_of_getElem? (i := 25) rfl)))) (mvT hZ (hw _ (List.mem_of_getElem? (i := 25) rfl))) (mvT hZ (hw _ (List.mem_of_getElem? (i := 24) rfl))) (by decide) (backOf (W := 0) (own_rm_add0 l Z a0 hw [] b10 b1 oB nB ob11 kb11 k1 (List.replicate 1024 (0 : Int32)) LS oe11 ke11 (0 : Int32) (0 : Int32) (0 : Int32) T11.heap n0 Z11 c11_1 c11_2 c11_3 c11_4 c11_5 c11_6 VS_11 g_b10 g_ob11 g_oe11 c11_9 c11_10 c11_11 ne_b1_b10 ne_b1_ob11 ne_b1_oe11 hJ138.2.1 (⟨by decide, by decide⟩ : own_ok 100 0) (by rw [List.length_replicate])) hZ (hw _ (List.mem_of_getElem? (i := 26) rfl)) (hw _ (List.mem_of_getElem? (i := 3) rfl)) (by decide) (by decide)) q12a q12c (g := (mkF m 220 #[.val (.int va), .val (.int vb), .val (.int vc), .val (.int vd), .val (.int ve), .val (.int vf), .val (.ref b1), .val (.int oA), .val (.int nA), .val (.int oB), .val (.int nB), .val (.int oC), .val (.int nC), .val (.int (0 : Int32)), .val (.int (0 : Int32)), .val (.int (0 : Int32)), .val (.ref b10), .unset] [(.int nB), (.int oB), (.ref b1), (.ref b10)])) rfl (by rw [hml]; rfl) (Steps.refl _) (argsL := [(.ref b1), (.int oB), (.int nB)]) (rest := []) (lenOf own_pd4 rfl) rfl (by show 2 * 0 + _ ≤ _; exact Nat.le_of_eq rfl) (hb hby at_220) (fun _ _ => ⟨rfl, rfl, (by decide : 4 + 0 ≤ _), (by decide : 1051 + 0 ≤ _)⟩)
          dsimp only [Pt.U, Pt.locs, Pt.cells, Pt.slots] at X12 l12 y12 z12 st12 hQ12
          subst l12 y12 z12
          obtain ⟨rfl, N12q, K12q, c12_1, c12_2, c12_3, c12_4, c12_5, c12_6⟩ := hQ12
          refine own_Fin.go (fun t k => st12.trans k) ?_
          have N12 := Fr.app N11 N12q
          have VS_12 := VS_11.keep K12q (ninS ne_b1_b10 (ninS ne_b1_ob11 (ninS ne_b1_oe11 nin0)))
          have Z12 := Nat.le_trans Z11 K12q.1
          have hO12 := own_next (⟨by decide, by decide⟩ : own_ok 0 0) (by decide) hJ138.2.1
          have hT12 := own_cpTake (LB := (List.replicate 1024 (0 : Int32))) (LS := LS) (S := (0 : Int32)) (o := oB) (n := nB) (by rw [List.length_replicate]) (own_up (⟨by decide, by decide⟩ : own_ok 0 0) (by decide)) hJ138.2.1
          rw [← hO12.2] at hT12
          have hL12 := own_cpLen (LB := (List.replicate 1024 (0 : Int32))) (LS := LS) (S := (0 : Int32)) (o := oB) (n := nB) (by rw [List.length_replicate]) (own_up (⟨by decide, by decide⟩ : own_ok 0 0) (by decide)) hJ138.2.1
          show own_Fin _ _ _ _ _ _ _ (T12.setTop (mkF m 223 #[.val (.int va), .val (.int vb), .val (.int vc), .val (.int vd), .val (.int ve), .val (.int vf), .val (.ref b1), .val (.int oA), .val (.int nA), .val (.int oB), .val (.int nB), .val (.int oC), .val (.int nC), .val (.int (0 : Int32)), .val (.int (0 : Int32)), .val (.int (0 : Int32)), .val (.ref b10), .unset] []))
          refine own_Fin.go (fun t k => XS.iload X12.here hx rfl (hb hby at_223) rfl k) ?_
          show own_Fin _ _ _ _ _ _ _ (T12.setTop (mkF m 225 #[.val (.int va), .val (.int vb), .val (.int vc), .val (.int vd), .val (.int ve), .val (.int vf), .val (.ref b1), .val (.int oA), .val (.int nA), .val (.int oB), .val (.int nB), .val (.int oC), .val (.int nC), .val (.int (0 : Int32)), .val (.int (0 : Int32)), .val (.int (0 : Int32)), .val (.ref b10), .unset] [(.int (0 : Int32))]))
          refine own_Fin.go (fun t k => XS.ifYes X12.here hx rfl (pc0 := 225) (pc' := 239) rfl (hb hby at_225) rfl (by decide) (by decide) (by decide) k) ?_
          show own_Fin _ _ _ _ _ _ _ (T12.setTop (mkF m 239 #[.val (.int va), .val (.int vb), .val (.int vc), .val (.int vd), .val (.int ve), .val (.int vf), .val (.ref b1), .val (.int oA), .val (.int nA), .val (.int oB), .val (.int nB), .val (.int oC), .val (.int nC), .val (.int (0 : Int32)), .val (.int (0 : Int32)), .val (.int (0 : Int32)), .val (.ref b10), .unset] []))
          refine own_Fin.go (fun t k => XS.iload X12.here hx rfl (hb hby at_239) rfl k) ?_
          show own_Fin _ _ _ _ _ _ _ (T12.setTop (mkF m 241 #[.val (.int va), .val (.int vb), .val (.int vc), .val (.int vd), .val (.int ve), .val (.int vf), .val (.ref b1), .val (.int oA), .val (.int nA), .val (.int oB), .val (.int nB), .val (.int oC), .val (.int nC), .val (.int (0 : Int32)), .val (.int (0 : Int32)), .val (.int (0 : Int32)), .val (.ref b10), .unset] [(.int (0 : Int32))]))
          refine own_Fin.go (fun t k => XS.ifYes X12.here hx rfl (pc0 := 241) (pc' := 261) rfl (hb hby at_241) rfl (by decide) (by decide) (by decide) k) ?_
          show own_Fin _ _ _ _ _ _ _ (T12.setTop (mkF m 261 #[.val (.int va), .val (.int vb), .val (.int vc), .val (.int vd), .val (.int ve), .val (.int vf), .val (.ref b1), .val (.int oA), .val (.int nA), .val (.int oB), .val (.int nB), .val (.int oC), .val (.int nC), .val (.int (0 : Int32)), .val (.int (0 : Int32)), .val (.int (0 : Int32)), .val (.ref b10), .unset] []))
          refine own_Fin.go (fun t k => XS.aload X12.here hx rfl (hb hby at_261) rfl rfl k) ?_
          show own_Fin _ _ _ _ _ _ _ (T12.setTop (mkF m 263 #[.val (.int va), .val (.int vb), .val (.int vc), .val (.int vd), .val (.int ve), .val (.int vf), .val (.ref b1), .val (.int oA), .val (.int nA), .val (.int oB), .val (.int nB), .val (.int oC), .val (.int nC), .val (.int (0 : Int32)), .val (.int (0 : Int32)), .val (.int (0 : Int32)), .val (.ref b10), .unset] [(.ref b1)]))
          refine own_Fin.go (fun t k => XS.iload X12.here hx rfl (hb hby at_263) rfl k) ?_
          show own_Fin _ _ _ _ _ _ _ (T12.setTop (mkF m 265 #[.val (.int va), .val (.int vb), .val (.int vc), .val (.int vd), .val (.int ve), .val (.int vf), .val (.ref b1), .val (.int oA), .val (.int nA), .val (.int oB), .val (.int nB), .val (.int oC), .val (.int nC), .val (.int (0 : Int32)), .val (.int (0 : Int32)), .val (.int (0 : Int32)), .val (.ref b10), .unset] [(.int oB), (.ref b1)]))
          refine own_Fin.go (fun t k => XS.iload X12.here hx rfl (hb hby at_265) rfl k) ?_
          show own_Fin _ _ _ _ _ _ _ (T12.setTop (mkF m 267 #[.val (.int va), .val (.int vb), .val (.int vc), .val (.int vd), .val (.int ve), .val (.int vf), .val (.ref b1), .val (.int oA), .val (.int nA), .val (.int oB), .val (.int nB), .val (.int oC), .val (.int nC), .val (.int (0 : Int32)), .val (.int (0 : Int32)), .val (.int (0 : Int32)), .val (.ref b10), .unset] [(.int nB), (.int oB), (.ref b1)]))
          obtain ⟨_, _, ⟨T13, L13, k13, n13⟩, -, X13, ⟨Lc13, hQ13, l13, y13, z13⟩, st13⟩ := Jvm.LawKit.callS X12 hx (y := (⟨"com/example/wardkeeper/wardkeeper/hl7/LinesAllAsciiPinLaw", "bad", "([BII)Z"⟩ : MethodName)) hown (mvT hZ (hw _ (List.mem_of_getElem? (i := 35) rfl))) (mvT hZ (hw _ (List.mem_of_getElem? (i := 36) rfl))) (mvT hZ (hw _ (List.mem_of_getElem? (i := 37) rfl))) (mvT hZ (hw _ (List.mem_of_getElem? (i := 38) rfl))) (by decide) (backOf (W := 0) (own_rm_bad l Z a0 hw [] b1 oB nB k1 LS T12.heap n0 Z12 VS_12) hZ (hw _ (List.mem_of_getElem? (i := 38) rfl)) (hw _ (List.mem_of_getElem? (i := 37) rfl)) (by decide) (by decide)) (g := (mkF m 267 #[.val (.int va), .val (.int vb), .val (.int vc), .val (.int vd), .val (.int ve), .val (.int vf), .val (.ref b1), .val (.int oA), .val (.int nA), .val (.int oB), .val (.int nB), .val (.int oC), .val (.int nC), .val (.int (0 : Int32)), .val (.int (0 : Int32)), .val (.int (0 : Int32)), .val (.ref b10), .unset] [(.int nB), (.int oB), (.ref b1)])) rfl (by rw [hml]; rfl) (argsL := [(.ref b1), (.int oB), (.int nB)]) (rest := []) (lenOf own_pd5 rfl) rfl (by show 2 * 0 + _ ≤ _; exact Nat.le_of_eq rfl) (hb hby at_267) (fun _ _ => ⟨rfl, rfl, (by decide : 4 + 0 ≤ _), (by decide : 1051 + 0 ≤ _)⟩)
          dsimp only [Pt.U, Pt.locs, Pt.cells, Pt.slots] at X13 l13 y13 z13 st13 hQ13
          subst l13 y13 z13
          obtain ⟨rfl, N13q, e13⟩ := hQ13
          refine own_Fin.go (fun t k => st13 t k) ?_
          have N13 := Fr.app N12 N13q
          show own_Fin _ _ _ _ _ _ _ (T13.setTop (mkF m 270 #[.val (.int va), .val (.int vb), .val (.int vc), .val (.int vd), .val (.int ve), .val (.int vf), .val (.ref b1), .val (.int oA), .val (.int nA), .val (.int oB), .val (.int nB), .val (.int oC), .val (.int nC), .val (.int (0 : Int32)), .val (.int (0 : Int32)), .val (.int (0 : Int32)), .val (.ref b10), .unset] [(.int (own_bad LS oB nB))]))
          by_cases hc270 : (own_bad LS oB nB) = (0 : Int32)
          · refine own_Fin.go (fun t k => XS.ifNo X13.here hx rfl (hb hby at_270) rfl (Jvm.Free.XT.i0_ne_f hc270) k) ?_
            show own_Fin _ _ _ _ _ _ _ (T13.setTop (mkF m 273 #[.val (.int va), .val (.int vb), .val (.int vc), .val (.int vd), .val (.int ve), .val (.int vf), .val (.ref b1), .val (.int oA), .val (.int nA), .val (.int oB), .val (.int nB), .val (.int oC), .val (.int nC), .val (.int (0 : Int32)), .val (.int (0 : Int32)), .val (.int (0 : Int32)), .val (.ref b10), .unset] []))
            refine own_Fin.go (fun t k => XS.iload X13.here hx rfl (hb hby at_273) rfl k) ?_
            show own_Fin _ _ _ _ _ _ _ (T13.setTop (mkF m 275 #[.val (.int va), .val (.int vb), .val (.int vc), .val (.int vd), .val (.int ve), .val (.int vf), .val (.ref b1), .val (.int oA), .val (.int nA), .val (.int oB), .val (.int nB), .val (.int oC), .val (.int nC), .val (.int (0 : Int32)), .val (.int (0 : Int32)), .val (.int (0 : Int32)), .val (.ref b10), .unset] [(.int (0 : Int32))]))
            refine own_Fin.go (fun t k => XS.ifYes X13.here hx rfl (pc0 := 275) (pc' := 290) rfl (hb hby at_275) rfl (by decide) (by decide) (by decide) k) ?_
            show own_Fin _ _ _ _ _ _ _ (T13.setTop (mkF m 290 #[.val (.int va), .val (.int vb), .val (.int vc), .val (.int vd), .val (.int ve), .val (.int vf), .val (.ref b1), .val (.int oA), .val (.int nA), .val (.int oB), .val (.int nB), .val (.int oC), .val (.int nC), .val (.int (0 : Int32)), .val (.int (0 : Int32)), .val (.int (0 : Int32)), .val (.ref b10), .unset] []))
            refine own_Fin.go (fun t k => XS.iconst X13.here hx rfl (hb hby at_290) k) ?_
            show own_Fin _ _ _ _ _ _ _ (T13.setTop (mkF m 291 #[.val (.int va), .val (.int vb), .val (.int vc), .val (.int vd), .val (.int ve), .val (.int vf), .val (.ref b1), .val (.int oA), .val (.int nA), .val (.int oB), .val (.int nB), .val (.int oC), .val (.int nC), .val (.int (0 : Int32)), .val (.int (0 : Int32)), .val (.int (0 : Int32)), .val (.ref b10), .unset] [(.int (1 : Int32))]))
            refine own_Fin.go (fun t k => XS.goto X13.here hx rfl (pc0 := 291) (pc' := 295) rfl (hb hby at_291) (by decide) (by decide) k) ?_
            show own_Fin _ _ _ _ _ _ _ (T13.setTop (mkF m 295 #[.val (.int va), .val (.int vb), .val (.int vc), .val (.int vd), .val (.int ve), .val (.int vf), .val (.ref b1), .val (.int oA), .val (.int nA), .val (.int oB), .val (.int nB), .val (.int oC), .val (.int nC), .val (.int (0 : Int32)), .val (.int (0 : Int32)), .val (.int (0 : Int32)), .val (.ref b10), .unset] [(.int (1 : Int32))]))
            refine own_Fin.go (fun t k => XS.istore X13.here hx rfl (hb hby at_295) rfl (l' := #[.val (.int va), .val (.int vb), .val (.int vc), .val (.int vd), .val (.int ve), .val (.int vf), .val (.ref b1), .val (.int oA), .val (.int nA), .val (.int oB), .val (.int nB), .val (.int oC), .val (.int nC), .val (.int (0 : Int32)), .val (.int (0 : Int32)), .val (.int (0 : Int32)), .val (.ref b10), .val (.int (1 : Int32))]) rfl k) ?_
            show own_Fin _ _ _ _ _ _ _ (T13.setTop (mkF m 297 #[.val (.int va), .val (.int vb), .val (.int vc), .val (.int vd), .val (.int ve), .val (.int vf), .val (.ref b1), .val (.int oA), .val (.int nA), .val (.int oB), .val (.int nB), .val (.int oC), .val (.int nC), .val (.int (0 : Int32)), .val (.int (0 : Int32)), .val (.int (0 : Int32)), .val (.ref b10), .val (.int (1 : Int32))] []))
            refine own_Fin.go (fun t k => XS.aload X13.here hx rfl (hb hby at_297) rfl rfl k) ?_
            show own_Fin _ _ _ _ _ _ _ (T13.setTop (mkF m 299 #[.val (.int va), .val (.int vb), .val (.int vc), .val (.int vd), .val (.int ve), .val (.int vf), .val (.ref b1), .val (.int oA), .val (.int nA), .val (.int oB), .val (.int nB), .val (.int oC), .val (.int nC), .val (.int (0 : Int32)), .val (.int (0 : Int32)), .val (.int (0 : Int32)), .val (.ref b10), .val (.int (1 : Int32))] [(.ref b10)]))
            obtain ⟨cq14, kq14, q14a, q14b, q14c⟩ := isOf hZ e13 c12_1
            obtain ⟨_, _, ⟨T14, L14, k14, n14⟩, -, X14, ⟨Lc14, hQ14, l14, y14, z14⟩, st14⟩ := X13.virtualBack hx (y := (⟨"com/example/wardkeeper/wardkeeper/hl7/Lines", "allAscii", "()Z"⟩ : MethodName)) (z := (⟨"com/example/wardkeeper/wardkeeper/hl7/Lines", "allAscii", "()Z"⟩ : MethodName)) hown (mvT hZ (hw _ (List.mem_of_getElem? (i := 42) rfl))) (mvT hZ (hw _ (List.mem_of_getElem? (i := 43) rfl))) (notFace_of_selects (args := #[]) (mvT hZ (hw _ (List.mem_of_getElem? (i := 45) rfl)))) (mvT hZ (hw _ (List.mem_of_getElem? (i := 45) rfl))) (mvT hZ (hw _ (List.mem_of_getElem? (i := 44) rfl))) (by decide) (backOf (W := 0) (own_rm_aa1 l Z a0 hw [] b10 ob11 kb11 (own_cp (List.replicate 1024 (0 : Int32)) LS (0 : Int32) oB nB) oe11 ke11 ((0 : Int32) + nB) (0 : Int32) (0 : Int32) T12.heap n0 Z12 c12_1 c12_2 c12_3 c12_4 c12_5 c12_6 (own_up hO12.1 (by decide)) hL12) hZ (hw _ (List.mem_of_getElem? (i := 46) rfl)) (hw _ (List.mem_of_getElem? (i := 3) rfl)) (by decide) (by decide)) q14a q14c (g := (mkF m 299 #[.val (.int va), .val (.int vb), .val (.int vc), .val (.int vd), .val (.int ve), .val (.int vf), .val (.ref b1), .val (.int oA), .val (.int nA), .val (.int oB), .val (.int nB), .val (.int oC), .val (.int nC), .val (.int (0 : Int32)), .val (.int (0 : Int32)), .val (.int (0 : Int32)), .val (.ref b10), .val (.int (1 : Int32))] [(.ref b10)])) rfl (by rw [hml]; rfl) (Steps.refl _) (argsL := []) (rest := []) (lenOf own_pd6 rfl) rfl (by show 2 * 0 + _ ≤ _; exact Nat.le_of_eq rfl) (hb hby at_299) (fun _ _ => ⟨rfl, e13, (by decide : 4 + 0 ≤ _), (by decide : 1051 + 0 ≤ _)⟩)
            dsimp only [Pt.U, Pt.locs, Pt.cells, Pt.slots] at X14 l14 y14 z14 st14 hQ14
            subst l14 y14 z14
            obtain ⟨rfl, N14q, e14⟩ := hQ14
            refine own_Fin.go (fun t k => st14.trans k) ?_
            have N14 := Fr.app N13 N14q
            show own_Fin _ _ _ _ _ _ _ (T14.setTop (mkF m 302 #[.val (.int va), .val (.int vb), .val (.int vc), .val (.int vd), .val (.int ve), .val (.int vf), .val (.ref b1), .val (.int oA), .val (.int nA), .val (.int oB), .val (.int nB), .val (.int oC), .val (.int nC), .val (.int (0 : Int32)), .val (.int (0 : Int32)), .val (.int (0 : Int32)), .val (.ref b10), .val (.int (1 : Int32))] [(.int (own_all (own_cp (List.replicate 1024 (0 : Int32)) LS (0 : Int32) oB nB) ((0 : Int32) + nB)))]))
            refine own_Fin.go (fun t k => XS.iload X14.here hx rfl (hb hby at_302) rfl k) ?_
            show own_Fin _ _ _ _ _ _ _ (T14.setTop (mkF m 304 #[.val (.int va), .val (.int vb), .val (.int vc), .val (.int vd), .val (.int ve), .val (.int vf), .val (.ref b1), .val (.int oA), .val (.int nA), .val (.int oB), .val (.int nB), .val (.int oC), .val (.int nC), .val (.int (0 : Int32)), .val (.int (0 : Int32)), .val (.int (0 : Int32)), .val (.ref b10), .val (.int (1 : Int32))] [(.int (1 : Int32)), (.int (own_all (own_cp (List.replicate 1024 (0 : Int32)) LS (0 : Int32) oB nB) ((0 : Int32) + nB)))]))
            have hc304 : (own_all (own_cp (List.replicate 1024 (0 : Int32)) LS (0 : Int32) oB nB) ((0 : Int32) + nB)) = (1 : Int32) := own_all1 hT12 (own_app own_nil (own_good hJ138.2.1 hc270))
            refine own_Fin.go (fun t k => XS.icmpNo X14.here hx rfl (hb hby at_304) rfl (Jvm.Free.XT.ii_ne_f hc304) k) ?_
            show own_Fin _ _ _ _ _ _ _ (T14.setTop (mkF m 307 #[.val (.int va), .val (.int vb), .val (.int vc), .val (.int vd), .val (.int ve), .val (.int vf), .val (.ref b1), .val (.int oA), .val (.int nA), .val (.int oB), .val (.int nB), .val (.int oC), .val (.int nC), .val (.int (0 : Int32)), .val (.int (0 : Int32)), .val (.int (0 : Int32)), .val (.ref b10), .val (.int (1 : Int32))] []))
            refine own_Fin.go (fun t k => XS.iconst X14.here hx rfl (hb hby at_307) k) ?_
            show own_Fin _ _ _ _ _ _ _ (T14.setTop (mkF m 308 #[.val (.int va), .val (.int vb), .val (.int vc), .val (.int vd), .val (.int ve), .val (.int vf), .val (.ref b1), .val (.int oA), .val (.int nA), .val (.int oB), .val (.int nB), .val (.int oC), .val (.int nC), .val (.int (0 : Int32)), .val (.int (0 : Int32)), .val (.int (0 : Int32)), .val (.ref b10), .val (.int (1 : Int32))] [(.int (1 : Int32))]))
            refine own_Fin.go (fun t k => XS.goto X14.here hx rfl (pc0 := 308) (pc' := 312) rfl (hb hby at_308) (by decide) (by decide) k) ?_
            show own_Fin _ _ _ _ _ _ _ (T14.setTop (mkF m 312 #[.val (.int va), .val (.int vb), .val (.int vc), .val (.int vd), .val (.int ve), .val (.int vf), .val (.ref b1), .val (.int oA), .val (.int nA), .val (.int oB), .val (.int nB), .val (.int oC), .val (.int nC), .val (.int (0 : Int32)), .val (.int (0 : Int32)), .val (.int (0 : Int32)), .val (.ref b10), .val (.int (1 : Int32))] [(.int (1 : Int32))]))
            refine own_retN X14 hx (t := .boolean) (w := (1 : Int32)) Bd.returns (by simp) (hb hby at_312) Bd.notSynchronized rfl (by decide) (by decide) ?_
            rw [e14]
            exact ⟨rfl, N14⟩
          · refine own_Fin.go (fun t k => XS.ifYes X13.here hx rfl (pc0 := 270) (pc' := 294) rfl (hb hby at_270) rfl (Jvm.Free.XT.i0_ne_t hc270) (by decide) (by decide) k) ?_
            show own_Fin _ _ _ _ _ _ _ (T13.setTop (mkF m 294 #[.val (.int va), .val (.int vb), .val (.int vc), .val (.int vd), .val (.int ve), .val (.int vf), .val (.ref b1), .val (.int oA), .val (.int nA), .val (.int oB), .val (.int nB), .val (.int oC), .val (.int nC), .val (.int (0 : Int32)), .val (.int (0 : Int32)), .val (.int (0 : Int32)), .val (.ref b10), .unset] []))
            refine own_Fin.go (fun t k => XS.iconst X13.here hx rfl (hb hby at_294) k) ?_
            show own_Fin _ _ _ _ _ _ _ (T13.setTop (mkF m 295 #[.val (.int va), .val (.int vb), .val (.int vc), .val (.int vd), .val (.int ve), .val (.int vf), .val (.ref b1), .val (.int oA), .val (.int nA), .val (.int oB), .val (.int nB), .val (.int oC), .val (.int nC), .val (.int (0 : Int32)), .val (.int (0 : Int32)), .val (.int (0 : Int32)), .val (.ref b10), .unset] [(.int (0 : Int32))]))
            refine own_Fin.go (fun t k => XS.istore X13.here hx rfl (hb hby at_295) rfl (l' := #[.val (.int va), .val (.int vb), .val (.int vc), .val (.int vd), .val (.int ve), .val (.int vf), .val (.ref b1), .val (.int oA), .val (.int nA), .val (.int oB), .val (.int nB), .val (.int oC), .val (.int nC), .val (.int (0 : Int32)), .val (.int (0 : Int32)), .val (.int (0 : Int32)), .val (.ref b10), .val (.int (0 : Int32))]) rfl k) ?_
            show own_Fin _ _ _ _ _ _ _ (T13.setTop (mkF m 297 #[.val (.int va), .val (.int vb), .val (.int vc), .val (.int vd), .val (.int ve), .val (.int vf), .val (.ref b1), .val (.int oA), .val (.int nA), .val (.int oB), .val (.int nB), .val (.int oC), .val (.int nC), .val (.int (0 : Int32)), .val (.int (0 : Int32)), .val (.int (0 : Int32)), .val (.ref b10), .val (.int (0 : Int32))] []))
            refine own_Fin.go (fun t k => XS.aload X13.here hx rfl (hb hby at_297) rfl rfl k) ?_
            show own_Fin _ _ _ _ _ _ _ (T13.setTop (mkF m 299 #[.val (.int va), .val (.int vb), .val (.int vc), .val (.int vd), .val (.int ve), .val (.int vf), .val (.ref b1), .val (.int oA), .val (.int nA), .val (.int oB), .val (.int nB), .val (.int oC), .val (.int nC), .val (.int (0 : Int32)), .val (.int (0 : Int32)), .val (.int (0 : Int32)), .val (.ref b10), .val (.int (0 : Int32))] [(.ref b10)]))
            obtain ⟨cq15, kq15, q15a, q15b, q15c⟩ := isOf hZ e13 c12_1
            obtain ⟨_, _, ⟨T15, L15, k15, n15⟩, -, X15, ⟨Lc15, hQ15, l15, y15, z15⟩, st15⟩ := X13.virtualBack hx (y := (⟨"com/example/wardkeeper/wardkeeper/hl7/Lines", "allAscii", "()Z"⟩ : MethodName)) (z := (⟨"com/example/wardkeeper/wardkeeper/hl7/Lines", "allAscii", "()Z"⟩ : MethodName)) hown (mvT hZ (hw _ (List.mem_of_getElem? (i := 42) rfl))) (mvT hZ (hw _ (List.mem_of_getElem? (i := 43) rfl))) (notFace_of_selects (args := #[]) (mvT hZ (hw _ (List.mem_of_getElem? (i := 45) rfl)))) (mvT hZ (hw _ (List.mem_of_getElem? (i := 45) rfl))) (mvT hZ (hw _ (List.mem_of_getElem? (i := 44) rfl))) (by decide) (backOf (W := 0) (own_rm_aa1 l Z a0 hw [] b10 ob11 kb11 (own_cp (List.replicate 1024 (0 : Int32)) LS (0 : Int32) oB nB) oe11 ke11 ((0 : Int32) + nB) (0 : Int32) (0 : Int32) T12.heap n0 Z12 c12_1 c12_2 c12_3 c12_4 c12_5 c12_6 (own_up hO12.1 (by decide)) hL12) hZ (hw _ (List.mem_of_getElem? (i := 46) rfl)) (hw _ (List.mem_of_getElem? (i := 3) rfl)) (by decide) (by decide)) q15a q15c (g := (mkF m 299 #[.val (.int va), .val (.int vb), .val (.int vc), .val (.int vd), .val (.int ve), .val (.int vf), .val (.ref b1), .val (.int oA), .val (.int nA), .val (.int oB), .val (.int nB), .val (.int oC), .val (.int nC), .val (.int (0 : Int32)), .val (.int (0 : Int32)), .val (.int (0 : Int32)), .val (.ref b10), .val (.int (0 : Int32))] [(.ref b10)])) rfl (by rw [hml]; rfl) (Steps.refl _) (argsL := []) (rest := []) (lenOf own_pd6 rfl) rfl (by show 2 * 0 + _ ≤ _; exact Nat.le_of_eq rfl) (hb hby at_299) (fun _ _ => ⟨rfl, e13, (by decide : 4 + 0 ≤ _), (by decide : 1051 + 0 ≤ _)⟩)
            dsimp only [Pt.U, Pt.locs, Pt.cells, Pt.slots] at X15 l15 y15 z15 st15 hQ15
            subst l15 y15 z15
            obtain ⟨rfl, N15q, e15⟩ := hQ15
            refine own_Fin.go (fun t k => st15.trans k) ?_
            have N15 := Fr.app N13 N15q
            show own_Fin _ _ _ _ _ _ _ (T15.setTop (mkF m 302 #[.val (.int va), .val (.int vb), .val (.int vc), .val (.int vd), .val (.int ve), .val (.int vf), .val (.ref b1), .val (.int oA), .val (.int nA), .val (.int oB), .val (.int nB), .val (.int oC), .val (.int nC), .val (.int (0 : Int32)), .val (.int (0 : Int32)), .val (.int (0 : Int32)), .val (.ref b10), .val (.int (0 : Int32))] [(.int (own_all (own_cp (List.replicate 1024 (0 : Int32)) LS (0 : Int32) oB nB) ((0 : Int32) + nB)))]))
            refine own_Fin.go (fun t k => XS.iload X15.here hx rfl (hb hby at_302) rfl k) ?_
            show own_Fin _ _ _ _ _ _ _ (T15.setTop (mkF m 304 #[.val (.int va), .val (.int vb), .val (.int vc), .val (.int vd), .val (.int ve), .val (.int vf), .val (.ref b1), .val (.int oA), .val (.int nA), .val (.int oB), .val (.int nB), .val (.int oC), .val (.int nC), .val (.int (0 : Int32)), .val (.int (0 : Int32)), .val (.int (0 : Int32)), .val (.ref b10), .val (.int (0 : Int32))] [(.int (0 : Int32)), (.int (own_all (own_cp (List.replicate 1024 (0 : Int32)) LS (0 : Int32) oB nB) ((0 : Int32) + nB)))]))
            have hc304 : (own_all (own_cp (List.replicate 1024 (0 : Int32)) LS (0 : Int32) oB nB) ((0 : Int32) + nB)) = (0 : Int32) := own_all0 hT12 (own_inr (own_evil hJ138.2.1 hc270))
            refine own_Fin.go (fun t k => XS.icmpNo X15.here hx rfl (hb hby at_304) rfl (Jvm.Free.XT.ii_ne_f hc304) k) ?_
            show own_Fin _ _ _ _ _ _ _ (T15.setTop (mkF m 307 #[.val (.int va), .val (.int vb), .val (.int vc), .val (.int vd), .val (.int ve), .val (.int vf), .val (.ref b1), .val (.int oA), .val (.int nA), .val (.int oB), .val (.int nB), .val (.int oC), .val (.int nC), .val (.int (0 : Int32)), .val (.int (0 : Int32)), .val (.int (0 : Int32)), .val (.ref b10), .val (.int (0 : Int32))] []))
            refine own_Fin.go (fun t k => XS.iconst X15.here hx rfl (hb hby at_307) k) ?_
            show own_Fin _ _ _ _ _ _ _ (T15.setTop (mkF m 308 #[.val (.int va), .val (.int vb), .val (.int vc), .val (.int vd), .val (.int ve), .val (.int vf), .val (.ref b1), .val (.int oA), .val (.int nA), .val (.int oB), .val (.int nB), .val (.int oC), .val (.int nC), .val (.int (0 : Int32)), .val (.int (0 : Int32)), .val (.int (0 : Int32)), .val (.ref b10), .val (.int (0 : Int32))] [(.int (1 : Int32))]))
            refine own_Fin.go (fun t k => XS.goto X15.here hx rfl (pc0 := 308) (pc' := 312) rfl (hb hby at_308) (by decide) (by decide) k) ?_
            show own_Fin _ _ _ _ _ _ _ (T15.setTop (mkF m 312 #[.val (.int va), .val (.int vb), .val (.int vc), .val (.int vd), .val (.int ve), .val (.int vf), .val (.ref b1), .val (.int oA), .val (.int nA), .val (.int oB), .val (.int nB), .val (.int oC), .val (.int nC), .val (.int (0 : Int32)), .val (.int (0 : Int32)), .val (.int (0 : Int32)), .val (.ref b10), .val (.int (0 : Int32))] [(.int (1 : Int32))]))
            refine own_retN X15 hx (t := .boolean) (w := (1 : Int32)) Bd.returns (by simp) (hb hby at_312) Bd.notSynchronized rfl (by decide) (by decide) ?_
            rw [e15]
            exact ⟨rfl, N15⟩
        · refine own_Fin.go (fun t k => XS.ifNo X9.here hx rfl (hb hby at_167) rfl (Jvm.Free.XT.i0_eq_f hc167) k) ?_
          show own_Fin _ _ _ _ _ _ _ (T9.setTop (mkF m 170 #[.val (.int va), .val (.int vb), .val (.int vc), .val (.int vd), .val (.int ve), .val (.int vf), .val (.ref b1), .val (.int oA), .val (.int nA), .val (.int oB), .val (.int nB), .val (.int oC), .val (.int nC), .val (.int (0 : Int32)), .val (.int (0 : Int32)), .unset, .unset, .unset] []))
          refine own_Fin.go (fun t k => XS.iconst X9.here hx rfl (hb hby at_170) k) ?_
          show own_Fin _ _ _ _ _ _ _ (T9.setTop (mkF m 171 #[.val (.int va), .val (.int vb), .val (.int vc), .val (.int vd), .val (.int ve), .val (.int vf), .val (.ref b1), .val (.int oA), .val (.int nA), .val (.int oB), .val (.int nB), .val (.int oC), .val (.int nC), .val (.int (0 : Int32)), .val (.int (0 : Int32)), .unset, .unset, .unset] [(.int (1 : Int32))]))
          refine own_Fin.go (fun t k => XS.goto X9.here hx rfl (pc0 := 171) (pc' := 175) rfl (hb hby at_171) (by decide) (by decide) k) ?_
          show own_Fin _ _ _ _ _ _ _ (T9.setTop (mkF m 175 #[.val (.int va), .val (.int vb), .val (.int vc), .val (.int vd), .val (.int ve), .val (.int vf), .val (.ref b1), .val (.int oA), .val (.int nA), .val (.int oB), .val (.int nB), .val (.int oC), .val (.int nC), .val (.int (0 : Int32)), .val (.int (0 : Int32)), .unset, .unset, .unset] [(.int (1 : Int32))]))
          refine own_Fin.go (fun t k => XS.istore X9.here hx rfl (hb hby at_175) rfl (l' := #[.val (.int va), .val (.int vb), .val (.int vc), .val (.int vd), .val (.int ve), .val (.int vf), .val (.ref b1), .val (.int oA), .val (.int nA), .val (.int oB), .val (.int nB), .val (.int oC), .val (.int nC), .val (.int (0 : Int32)), .val (.int (0 : Int32)), .val (.int (1 : Int32)), .unset, .unset]) rfl k) ?_
          show own_Fin _ _ _ _ _ _ _ (T9.setTop (mkF m 177 #[.val (.int va), .val (.int vb), .val (.int vc), .val (.int vd), .val (.int ve), .val (.int vf), .val (.ref b1), .val (.int oA), .val (.int nA), .val (.int oB), .val (.int nB), .val (.int oC), .val (.int nC), .val (.int (0 : Int32)), .val (.int (0 : Int32)), .val (.int (1 : Int32)), .unset, .unset] []))
          obtain ⟨T16, h16, X16, e16, E16, A16, D16, -, st16⟩ := newO X9 hx hZ hown (hw _ (List.mem_of_getElem? (i := 1) rfl)) (hw _ (List.mem_of_getElem? (i := 2) rfl)) (hw _ (List.mem_of_getElem? (i := 3) rfl)) e9 (g := (mkF m 177 #[.val (.int va), .val (.int vb), .val (.int vc), .val (.int vd), .val (.int ve), .val (.int vf), .val (.ref b1), .val (.int oA), .val (.int nA), .val (.int oB), .val (.int nB), .val (.int oC), .val (.int nC), .val (.int (0 : Int32)), .val (.int (0 : Int32)), .val (.int (1 : Int32)), .unset, .unset] [])) rfl (hb hby at_177) (by decide) (by decide)
          obtain ⟨b16, g16⟩ : ∃ z, z = h9.size := ⟨_, rfl⟩
          rw [← g16] at A16 D16 st16
          refine own_Fin.go st16 ?_
          have g_b16 : n0 ≤ b16 := Nat.le_trans Z9 (Nat.le_of_eq g16.symm)
          have ne_b1_b16 : b1 ≠ b16 := Nat.ne_of_lt (Nat.lt_of_lt_of_le VS.lt (Nat.le_of_eq g16.symm))
          have VS_16 := VS.ext E16
          have Z16 := Nat.le_trans Z9 E16.1
          have F_b16_bytes : Fld Z h16 b16 "com/example/wardkeeper/wardkeeper/hl7/Lines" "bytes" "[B" .null := D16 (Or.inl (hw _ (List.mem_of_getElem? (i := 11) rfl))) (ty := (.array .byte)) (by decide)
          have F_b16_ends : Fld Z h16 b16 "com/example/wardkeeper/wardkeeper/hl7/Lines" "ends" "[I" .null := D16 (Or.inl (hw _ (List.mem_of_getElem? (i := 14) rfl))) (ty := (.array .int)) (by decide)
          have F_b16_count : Fld Z h16 b16 "com/example/wardkeeper/wardkeeper/hl7/Lines" "count" "I" (.int (0 : Int32)) := D16 (Or.inl (hw _ (List.mem_of_getElem? (i := 21) rfl))) (ty := .int) (by decide)
          show own_Fin _ _ _ _ _ _ _ (T16.setTop (mkF m 180 #[.val (.int va), .val (.int vb), .val (.int vc), .val (.int vd), .val (.int ve), .val (.int vf), .val (.ref b1), .val (.int oA), .val (.int nA), .val (.int oB), .val (.int nB), .val (.int oC), .val (.int nC), .val (.int (0 : Int32)), .val (.int (0 : Int32)), .val (.int (1 : Int32)), .unset, .unset] [(.ref b16)]))
          refine own_Fin.go (fun t k => XS.dup X16.here hx rfl (hb hby at_180) rfl rfl k) ?_
          show own_Fin _ _ _ _ _ _ _ (T16.setTop (mkF m 181 #[.val (.int va), .val (.int vb), .val (.int vc), .val (.int vd), .val (.int ve), .val (.int vf), .val (.ref b1), .val (.int oA), .val (.int nA), .val (.int oB), .val (.int nB), .val (.int oC), .val (.int nC), .val (.int (0 : Int32)), .val (.int (0 : Int32)), .val (.int (1 : Int32)), .unset, .unset] [(.ref b16), (.ref b16)]))
          obtain ⟨_, _, ⟨T17, L17, k17, n17⟩, -, X17, ⟨Lc17, hQ17, l17, y17, z17⟩, st17⟩ := X16.specialBack hx (y := (⟨"com/example/wardkeeper/wardkeeper/hl7/Lines", "<init>", "()V"⟩ : MethodName)) rfl hown (mvT hZ (hw _ (List.mem_of_getElem? (i := 4) rfl))) (mvT hZ (hw _ (List.mem_of_getElem? (i := 5) rfl))) (mvT hZ (hw _ (List.mem_of_getElem? (i := 6) rfl))) (by decide) (backOf (W := 1) (own_rm_ini l Z a0 hw [] b16  h16 n0 Z16 A16 F_b16_bytes F_b16_ends F_b16_count g_b16) hZ (hw _ (List.mem_of_getElem? (i := 6) rfl)) (hw _ (List.mem_of_getElem? (i := 3) rfl)) (by decide) (by decide)) (g := (mkF m 181 #[.val (.int va), .val (.int vb), .val (.int vc), .val (.int vd), .val (.int ve), .val (.int vf), .val (.ref b1), .val (.int oA), .val (.int nA), .val (.int oB), .val (.int nB), .val (.int oC), .val (.int nC), .val (.int (0 : Int32)), .val (.int (0 : Int32)), .val (.int (1 : Int32)), .unset, .unset] [(.ref b16), (.ref b16)])) rfl (by rw [hml]; rfl) (Steps.refl _) (a := b16) (argsL := []) (rest := [(.ref b16)]) (lenOf own_pd3 rfl) rfl (by show 2 * 0 + _ ≤ _; exact Nat.le_of_eq rfl) (hb hby at_181) (fun _ _ => ⟨rfl, e16, (by decide : 2 + 2 ≤ _), (by decide : 11 + 1040 ≤ _)⟩)
          dsimp only [Pt.U, Pt.locs, Pt.cells, Pt.slots] at X17 l17 y17 z17 st17 hQ17
          subst l17 y17 z17
          obtain ⟨ob17, oe17, kb17, ke17, rfl, N17q, K17q, c17_1, c17_2, c17_3, c17_4, c17_5, c17_6, c17_7, c17_8, c17_9, c17_10, c17_11⟩ := hQ17
          refine own_Fin.go (fun t k => st17.trans k) ?_
          have N17 := Fr.app N9 N17q
          have VS_17 := VS_16.keep K17q (ninS ne_b1_b16 nin0)
          have Z17 := Nat.le_trans Z16 K17q.1
          have ne_b1_ob17 : b1 ≠ ob17 := Nat.ne_of_lt (Nat.lt_of_lt_of_le VS_16.lt c17_7)
          have ne_b16_ob17 : b16 ≠ ob17 := Nat.ne_of_lt (Nat.lt_of_lt_of_le F_b16_count.lt c17_7)
          have g_ob17 : n0 ≤ ob17 := Nat.le_trans Z16 c17_7
          have ne_b1_oe17 : b1 ≠ oe17 := Nat.ne_of_lt (Nat.lt_of_lt_of_le VS_16.lt c17_8)
          have ne_b16_oe17 : b16 ≠ oe17 := Nat.ne_of_lt (Nat.lt_of_lt_of_le F_b16_count.lt c17_8)
          have g_oe17 : n0 ≤ oe17 := Nat.le_trans Z16 c17_8
          show own_Fin _ _ _ _ _ _ _ (T17.setTop (mkF m 184 #[.val (.int va), .val (.int vb), .val (.int vc), .val (.int vd), .val (.int ve), .val (.int vf), .val (.ref b1), .val (.int oA), .val (.int nA), .val (.int oB), .val (.int nB), .val (.int oC), .val (.int nC), .val (.int (0 : Int32)), .val (.int (0 : Int32)), .val (.int (1 : Int32)), .unset, .unset] [(.ref b16)]))
          refine own_Fin.go (fun t k => XS.astore X17.here hx rfl (hb hby at_184) rfl rfl (l' := #[.val (.int va), .val (.int vb), .val (.int vc), .val (.int vd), .val (.int ve), .val (.int vf), .val (.ref b1), .val (.int oA), .val (.int nA), .val (.int oB), .val (.int nB), .val (.int oC), .val (.int nC), .val (.int (0 : Int32)), .val (.int (0 : Int32)), .val (.int (1 : Int32)), .val (.ref b16), .unset]) rfl k) ?_
          show own_Fin _ _ _ _ _ _ _ (T17.setTop (mkF m 186 #[.val (.int va), .val (.int vb), .val (.int vc), .val (.int vd), .val (.int ve), .val (.int vf), .val (.ref b1), .val (.int oA), .val (.int nA), .val (.int oB), .val (.int nB), .val (.int oC), .val (.int nC), .val (.int (0 : Int32)), .val (.int (0 : Int32)), .val (.int (1 : Int32)), .val (.ref b16), .unset] []))
          refine own_Fin.go (fun t k => XS.iload X17.here hx rfl (hb hby at_186) rfl k) ?_
          show own_Fin _ _ _ _ _ _ _ (T17.setTop (mkF m 188 #[.val (.int va), .val (.int vb), .val (.int vc), .val (.int vd), .val (.int ve), .val (.int vf), .val (.ref b1), .val (.int oA), .val (.int nA), .val (.int oB), .val (.int nB), .val (.int oC), .val (.int nC), .val (.int (0 : Int32)), .val (.int (0 : Int32)), .val (.int (1 : Int32)), .val (.ref b16), .unset] [(.int (0 : Int32))]))
          refine own_Fin.go (fun t k => XS.ifYes X17.here hx rfl (pc0 := 188) (pc' := 202) rfl (hb hby at_188) rfl (by decide) (by decide) (by decide) k) ?_
          show own_Fin _ _ _ _ _ _ _ (T17.setTop (mkF m 202 #[.val (.int va), .val (.int vb), .val (.int vc), .val (.int vd), .val (.int ve), .val (.int vf), .val (.ref b1), .val (.int oA), .val (.int nA), .val (.int oB), .val (.int nB), .val (.int oC), .val (.int nC), .val (.int (0 : Int32)), .val (.int (0 : Int32)), .val (.int (1 : Int32)), .val (.ref b16), .unset] []))
          refine own_Fin.go (fun t k => XS.iload X17.here hx rfl (hb hby at_202) rfl k) ?_
          show own_Fin _ _ _ _ _ _ _ (T17.setTop (mkF m 204 #[.val (.int va), .val (.int vb), .val (.int vc), .val (.int vd), .val (.int ve), .val (.int vf), .val (.ref b1), .val (.int oA), .val (.int nA), .val (.int oB), .val (.int nB), .val (.int oC), .val (.int nC), .val (.int (0 : Int32)), .val (.int (0 : Int32)), .val (.int (1 : Int32)), .val (.ref b16), .unset] [(.int (0 : Int32))]))
          refine own_Fin.go (fun t k => XS.ifYes X17.here hx rfl (pc0 := 204) (pc' := 212) rfl (hb hby at_204) rfl (by decide) (by decide) (by decide) k) ?_
          show own_Fin _ _ _ _ _ _ _ (T17.setTop (mkF m 212 #[.val (.int va), .val (.int vb), .val (.int vc), .val (.int vd), .val (.int ve), .val (.int vf), .val (.ref b1), .val (.int oA), .val (.int nA), .val (.int oB), .val (.int nB), .val (.int oC), .val (.int nC), .val (.int (0 : Int32)), .val (.int (0 : Int32)), .val (.int (1 : Int32)), .val (.ref b16), .unset] []))
          refine own_Fin.go (fun t k => XS.aload X17.here hx rfl (hb hby at_212) rfl rfl k) ?_
          show own_Fin _ _ _ _ _ _ _ (T17.setTop (mkF m 214 #[.val (.int va), .val (.int vb), .val (.int vc), .val (.int vd), .val (.int ve), .val (.int vf), .val (.ref b1), .val (.int oA), .val (.int nA), .val (.int oB), .val (.int nB), .val (.int oC), .val (.int nC), .val (.int (0 : Int32)), .val (.int (0 : Int32)), .val (.int (1 : Int32)), .val (.ref b16), .unset] [(.ref b16)]))
          refine own_Fin.go (fun t k => XS.aload X17.here hx rfl (hb hby at_214) rfl rfl k) ?_
          show own_Fin _ _ _ _ _ _ _ (T17.setTop (mkF m 216 #[.val (.int va), .val (.int vb), .val (.int vc), .val (.int vd), .val (.int ve), .val (.int vf), .val (.ref b1), .val (.int oA), .val (.int nA), .val (.int oB), .val (.int nB), .val (.int oC), .val (.int nC), .val (.int (0 : Int32)), .val (.int (0 : Int32)), .val (.int (1 : Int32)), .val (.ref b16), .unset] [(.ref b1), (.ref b16)]))
          refine own_Fin.go (fun t k => XS.iload X17.here hx rfl (hb hby at_216) rfl k) ?_
          show own_Fin _ _ _ _ _ _ _ (T17.setTop (mkF m 218 #[.val (.int va), .val (.int vb), .val (.int vc), .val (.int vd), .val (.int ve), .val (.int vf), .val (.ref b1), .val (.int oA), .val (.int nA), .val (.int oB), .val (.int nB), .val (.int oC), .val (.int nC), .val (.int (0 : Int32)), .val (.int (0 : Int32)), .val (.int (1 : Int32)), .val (.ref b16), .unset] [(.int oB), (.ref b1), (.ref b16)]))
          refine own_Fin.go (fun t k => XS.iload X17.here hx rfl (hb hby at_218) rfl k) ?_
          show own_Fin _ _ _ _ _ _ _ (T17.setTop (mkF m 220 #[.val (.int va), .val (.int vb), .val (.int vc), .val (.int vd), .val (.int ve), .val (.int vf), .val (.ref b1), .val (.int oA), .val (.int nA), .val (.int oB), .val (.int nB), .val (.int oC), .val (.int nC), .val (.int (0 : Int32)), .val (.int (0 : Int32)), .val (.int (1 : Int32)), .val (.ref b16), .unset] [(.int nB), (.int oB), (.ref b1), (.ref b16)]))
          obtain ⟨cq18, kq18, q18a, q18b, q18c⟩ := isOf hZ rfl c17_1
          obtain ⟨_, _, ⟨T18, L18, k18, n18⟩, -, X18, ⟨Lc18, hQ18, l18, y18, z18⟩, st18⟩ := X17.virtualBack hx (y := (⟨"com/example/wardkeeper/wardkeeper/hl7/Lines", "add", "([BII)V"⟩ : MethodName)) (z := (⟨"com/example/wardkeeper/wardkeeper/hl7/Lines", "add", "([BII)V"⟩ : MethodName)) hown (mvT hZ (hw _ (List.mem_of_getElem? (i := 22) rfl))) (mvT hZ (hw _ (List.mem_of_getElem? (i := 23) rfl))) (notFace_of_selects (args := #[]) (mvT hZ (hw _ (List.mem_of_getElem? (i := 25) rfl)))) (mvT hZ (hw _ (List.mem_of_getElem? (i := 25) rfl))) (mvT hZ (hw _ (List.mem_of_getElem? (i := 24) rfl))) (by decide) (backOf (W := 0) (own_rm_add0 l Z a0 hw [] b16 b1 oB nB ob17 kb17 k1 (List.replicate 1024 (0 : Int32)) LS oe17 ke17 (0 : Int32) (0 : Int32) (0 : Int32) T17.heap n0 Z17 c17_1 c17_2 c17_3 c17_4 c17_5 c17_6 VS_17 g_b16 g_ob17 g_oe17 c17_9 c17_10 c17_11 ne_b1_b16 ne_b1_ob17 ne_b1_oe17 hJ138.2.1 (⟨by decide, by decide⟩ : own_ok 100 0) (by rw [List.length_replicate])) hZ (hw _ (List.mem_of_getElem? (i := 26) rfl)) (hw _ (List.mem_of_getElem? (i := 3) rfl)) (by decide) (by decide)) q18a q18c (g := (mkF m 220 #[.val (.int va), .val (.int vb), .val (.int vc), .val (.int vd), .val (.int ve), .val (.int vf), .val (.ref b1), .val (.int oA), .val (.int nA), .val (.int oB), .val (.int nB), .val (.int oC), .val (.int nC), .val (.int (0 : Int32)), .val (.int (0 : Int32)), .val (.int (1 : Int32)), .val (.ref b16), .unset] [(.int nB), (.int oB), (.ref b1), (.ref b16)])) rfl (by rw [hml]; rfl) (Steps.refl _) (argsL := [(.ref b1), (.int oB), (.int nB)]) (rest := []) (lenOf own_pd4 rfl) rfl (by show 2 * 0 + _ ≤ _; exact Nat.le_of_eq rfl) (hb hby at_220) (fun _ _ => ⟨rfl, rfl, (by decide : 4 + 0 ≤ _), (by decide : 1051 + 0 ≤ _)⟩)
          dsimp only [Pt.U, Pt.locs, Pt.cells, Pt.slots] at X18 l18 y18 z18 st18 hQ18
          subst l18 y18 z18
          obtain ⟨rfl, N18q, K18q, c18_1, c18_2, c18_3, c18_4, c18_5, c18_6⟩ := hQ18
          refine own_Fin.go (fun t k => st18.trans k) ?_
          have N18 := Fr.app N17 N18q
          have VS_18 := VS_17.keep K18q (ninS ne_b1_b16 (ninS ne_b1_ob17 (ninS ne_b1_oe17 nin0)))
          have Z18 := Nat.le_trans Z17 K18q.1
          have hO18 := own_next (⟨by decide, by decide⟩ : own_ok 0 0) (by decide) hJ138.2.1
          have hT18 := own_cpTake (LB := (List.replicate 1024 (0 : Int32))) (LS := LS) (S := (0 : Int32)) (o := oB) (n := nB) (by rw [List.length_replicate]) (own_up (⟨by decide, by decide⟩ : own_ok 0 0) (by decide)) hJ138.2.1
          rw [← hO18.2] at hT18
          have hL18 := own_cpLen (LB := (List.replicate 1024 (0 : Int32))) (LS := LS) (S := (0 : Int32)) (o := oB) (n := nB) (by rw [List.length_replicate]) (own_up (⟨by decide, by decide⟩ : own_ok 0 0) (by decide)) hJ138.2.1
          show own_Fin _ _ _ _ _ _ _ (T18.setTop (mkF m 223 #[.val (.int va), .val (.int vb), .val (.int vc), .val (.int vd), .val (.int ve), .val (.int vf), .val (.ref b1), .val (.int oA), .val (.int nA), .val (.int oB), .val (.int nB), .val (.int oC), .val (.int nC), .val (.int (0 : Int32)), .val (.int (0 : Int32)), .val (.int (1 : Int32)), .val (.ref b16), .unset] []))
          refine own_Fin.go (fun t k => XS.iload X18.here hx rfl (hb hby at_223) rfl k) ?_
          show own_Fin _ _ _ _ _ _ _ (T18.setTop (mkF m 225 #[.val (.int va), .val (.int vb), .val (.int vc), .val (.int vd), .val (.int ve), .val (.int vf), .val (.ref b1), .val (.int oA), .val (.int nA), .val (.int oB), .val (.int nB), .val (.int oC), .val (.int nC), .val (.int (0 : Int32)), .val (.int (0 : Int32)), .val (.int (1 : Int32)), .val (.ref b16), .unset] [(.int (1 : Int32))]))
          refine own_Fin.go (fun t k => XS.ifNo X18.here hx rfl (hb hby at_225) rfl (by decide) k) ?_
          show own_Fin _ _ _ _ _ _ _ (T18.setTop (mkF m 228 #[.val (.int va), .val (.int vb), .val (.int vc), .val (.int vd), .val (.int ve), .val (.int vf), .val (.ref b1), .val (.int oA), .val (.int nA), .val (.int oB), .val (.int nB), .val (.int oC), .val (.int nC), .val (.int (0 : Int32)), .val (.int (0 : Int32)), .val (.int (1 : Int32)), .val (.ref b16), .unset] []))
          refine own_Fin.go (fun t k => XS.aload X18.here hx rfl (hb hby at_228) rfl rfl k) ?_
          show own_Fin _ _ _ _ _ _ _ (T18.setTop (mkF m 230 #[.val (.int va), .val (.int vb), .val (.int vc), .val (.int vd), .val (.int ve), .val (.int vf), .val (.ref b1), .val (.int oA), .val (.int nA), .val (.int oB), .val (.int nB), .val (.int oC), .val (.int nC), .val (.int (0 : Int32)), .val (.int (0 : Int32)), .val (.int (1 : Int32)), .val (.ref b16), .unset] [(.ref b16)]))
          refine own_Fin.go (fun t k => XS.aload X18.here hx rfl (hb hby at_230) rfl rfl k) ?_
          show own_Fin _ _ _ _ _ _ _ (T18.setTop (mkF m 232 #[.val (.int va), .val (.int vb), .val (.int vc), .val (.int vd), .val (.int ve), .val (.int vf), .val (.ref b1), .val (.int oA), .val (.int nA), .val (.int oB), .val (.int nB), .val (.int oC), .val (.int nC), .val (.int (0 : Int32)), .val (.int (0 : Int32)), .val (.int (1 : Int32)), .val (.ref b16), .unset] [(.ref b1), (.ref b16)]))
          refine own_Fin.go (fun t k => XS.iload X18.here hx rfl (hb hby at_232) rfl k) ?_
          show own_Fin _ _ _ _ _ _ _ (T18.setTop (mkF m 234 #[.val (.int va), .val (.int vb), .val (.int vc), .val (.int vd), .val (.int ve), .val (.int vf), .val (.ref b1), .val (.int oA), .val (.int nA), .val (.int oB), .val (.int nB), .val (.int oC), .val (.int nC), .val (.int (0 : Int32)), .val (.int (0 : Int32)), .val (.int (1 : Int32)), .val (.ref b16), .unset] [(.int oC), (.ref b1), (.ref b16)]))
          refine own_Fin.go (fun t k => XS.iload X18.here hx rfl (hb hby at_234) rfl k) ?_
          show own_Fin _ _ _ _ _ _ _ (T18.setTop (mkF m 236 #[.val (.int va), .val (.int vb), .val (.int vc), .val (.int vd), .val (.int ve), .val (.int vf), .val (.ref b1), .val (.int oA), .val (.int nA), .val (.int oB), .val (.int nB), .val (.int oC), .val (.int nC), .val (.int (0 : Int32)), .val (.int (0 : Int32)), .val (.int (1 : Int32)), .val (.ref b16), .unset] [(.int nC), (.int oC), (.ref b1), (.ref b16)]))
          obtain ⟨cq19, kq19, q19a, q19b, q19c⟩ := isOf hZ rfl c18_1
          obtain ⟨_, _, ⟨T19, L19, k19, n19⟩, -, X19, ⟨Lc19, hQ19, l19, y19, z19⟩, st19⟩ := X18.virtualBack hx (y := (⟨"com/example/wardkeeper/wardkeeper/hl7/Lines", "add", "([BII)V"⟩ : MethodName)) (z := (⟨"com/example/wardkeeper/wardkeeper/hl7/Lines", "add", "([BII)V"⟩ : MethodName)) hown (mvT hZ (hw _ (List.mem_of_getElem? (i := 22) rfl))) (mvT hZ (hw _ (List.mem_of_getElem? (i := 23) rfl))) (notFace_of_selects (args := #[]) (mvT hZ (hw _ (List.mem_of_getElem? (i := 25) rfl)))) (mvT hZ (hw _ (List.mem_of_getElem? (i := 25) rfl))) (mvT hZ (hw _ (List.mem_of_getElem? (i := 24) rfl))) (by decide) (backOf (W := 0) (own_rm_add1 l Z a0 hw [] b16 b1 oC nC ob17 kb17 k1 (own_cp (List.replicate 1024 (0 : Int32)) LS (0 : Int32) oB nB) LS oe17 ke17 ((0 : Int32) + nB) (0 : Int32) (0 : Int32) T18.heap n0 Z18 c18_1 c18_2 c18_3 c18_4 c18_5 c18_6 VS_18 g_b16 g_ob17 g_oe17 c17_9 c17_10 c17_11 ne_b1_b16 ne_b1_ob17 ne_b1_oe17 hJ138.2.2 (own_up hO18.1 (by decide)) hL18) hZ (hw _ (List.mem_of_getElem? (i := 26) rfl)) (hw _ (List.mem_of_getElem? (i := 3) rfl)) (by decide) (by decide)) q19a q19c (g := (mkF m 236 #[.val (.int va), .val (.int vb), .val (.int vc), .val (.int vd), .val (.int ve), .val (.int vf), .val (.ref b1), .val (.int oA), .val (.int nA), .val (.int oB), .val (.int nB), .val (.int oC), .val (.int nC), .val (.int (0 : Int32)), .val (.int (0 : Int32)), .val (.int (1 : Int32)), .val (.ref b16), .unset] [(.int nC), (.int oC), (.ref b1), (.ref b16)])) rfl (by rw [hml]; rfl) (Steps.refl _) (argsL := [(.ref b1), (.int oC), (.int nC)]) (rest := []) (lenOf own_pd4 rfl) rfl (by show 2 * 0 + _ ≤ _; exact Nat.le_of_eq rfl) (hb hby at_236) (fun _ _ => ⟨rfl, rfl, (by decide : 4 + 0 ≤ _), (by decide : 1051 + 0 ≤ _)⟩)
          dsimp only [Pt.U, Pt.locs, Pt.cells, Pt.slots] at X19 l19 y19 z19 st19 hQ19
          subst l19 y19 z19
          obtain ⟨rfl, N19q, K19q, c19_1, c19_2, c19_3, c19_4, c19_5, c19_6⟩ := hQ19
          refine own_Fin.go (fun t k => st19.trans k) ?_
          have N19 := Fr.app N18 N19q
          have VS_19 := VS_18.keep K19q (ninS ne_b1_b16 (ninS ne_b1_ob17 (ninS ne_b1_oe17 nin0)))
          have Z19 := Nat.le_trans Z18 K19q.1
          have hO19 := own_next hO18.1 (by decide) hJ138.2.2
          have hT19 := own_cpTake (LB := (own_cp (List.replicate 1024 (0 : Int32)) LS (0 : Int32) oB nB)) (LS := LS) (S := ((0 : Int32) + nB)) (o := oC) (n := nC) hL18 (own_up hO18.1 (by decide)) hJ138.2.2
          rw [← hO19.2, hT18] at hT19
          have hL19 := own_cpLen (LB := (own_cp (List.replicate 1024 (0 : Int32)) LS (0 : Int32) oB nB)) (LS := LS) (S := ((0 : Int32) + nB)) (o := oC) (n := nC) hL18 (own_up hO18.1 (by decide)) hJ138.2.2
          show own_Fin _ _ _ _ _ _ _ (T19.setTop (mkF m 239 #[.val (.int va), .val (.int vb), .val (.int vc), .val (.int vd), .val (.int ve), .val (.int vf), .val (.ref b1), .val (.int oA), .val (.int nA), .val (.int oB), .val (.int nB), .val (.int oC), .val (.int nC), .val (.int (0 : Int32)), .val (.int (0 : Int32)), .val (.int (1 : Int32)), .val (.ref b16), .unset] []))
          refine own_Fin.go (fun t k => XS.iload X19.here hx rfl (hb hby at_239) rfl k) ?_
          show own_Fin _ _ _ _ _ _ _ (T19.setTop (mkF m 241 #[.val (.int va), .val (.int vb), .val (.int vc), .val (.int vd), .val (.int ve), .val (.int vf), .val (.ref b1), .val (.int oA), .val (.int nA), .val (.int oB), .val (.int nB), .val (.int oC), .val (.int nC), .val (.int (0 : Int32)), .val (.int (0 : Int32)), .val (.int (1 : Int32)), .val (.ref b16), .unset] [(.int (0 : Int32))]))
          refine own_Fin.go (fun t k => XS.ifYes X19.here hx rfl (pc0 := 241) (pc' := 261) rfl (hb hby at_241) rfl (by decide) (by decide) (by decide) k) ?_
          show own_Fin _ _ _ _ _ _ _ (T19.setTop (mkF m 261 #[.val (.int va), .val (.int vb), .val (.int vc), .val (.int vd), .val (.int ve), .val (.int vf), .val (.ref b1), .val (.int oA), .val (.int nA), .val (.int oB), .val (.int nB), .val (.int oC), .val (.int nC), .val (.int (0 : Int32)), .val (.int (0 : Int32)), .val (.int (1 : Int32)), .val (.ref b16), .unset] []))
          refine own_Fin.go (fun t k => XS.aload X19.here hx rfl (hb hby at_261) rfl rfl k) ?_
          show own_Fin _ _ _ _ _ _ _ (T19.setTop (mkF m 263 #[.val (.int va), .val (.int vb), .val (.int vc), .val (.int vd), .val (.int ve), .val (.int vf), .val (.ref b1), .val (.int oA), .val (.int nA), .val (.int oB), .val (.int nB), .val (.int oC), .val (.int nC), .val (.int (0 : Int32)), .val (.int (0 : Int32)), .val (.int (1 : Int32)), .val (.ref b16), .unset] [(.ref b1)]))
          refine own_Fin.go (fun t k => XS.iload X19.here hx rfl (hb hby at_263) rfl k) ?_
          show own_Fin _ _ _ _ _ _ _ (T19.setTop (mkF m 265 #[.val (.int va), .val (.int vb), .val (.int vc), .val (.int vd), .val (.int ve), .val (.int vf), .val (.ref b1), .val (.int oA), .val (.int nA), .val (.int oB), .val (.int nB), .val (.int oC), .val (.int nC), .val (.int (0 : Int32)), .val (.int (0 : Int32)), .val (.int (1 : Int32)), .val (.ref b16), .unset] [(.int oB), (.ref b1)]))
          refine own_Fin.go (fun t k => XS.iload X19.here hx rfl (hb hby at_265) rfl k) ?_
          show own_Fin _ _ _ _ _ _ _ (T19.setTop (mkF m 267 #[.val (.int va), .val (.int vb), .val (.int vc), .val (.int vd), .val (.int ve), .val (.int vf), .val (.ref b1), .val (.int oA), .val (.int nA), .val (.int oB), .val (.int nB), .val (.int oC), .val (.int nC), .val (.int (0 : Int32)), .val (.int (0 : Int32)), .val (.int (1 : Int32)), .val (.ref b16), .unset] [(.int nB), (.int oB), (.ref b1)]))
          obtain ⟨_, _, ⟨T20, L20, k20, n20⟩, -, X20, ⟨Lc20, hQ20, l20, y20, z20⟩, st20⟩ := Jvm.LawKit.callS X19 hx (y := (⟨"com/example/wardkeeper/wardkeeper/hl7/LinesAllAsciiPinLaw", "bad", "([BII)Z"⟩ : MethodName)) hown (mvT hZ (hw _ (List.mem_of_getElem? (i := 35) rfl))) (mvT hZ (hw _ (List.mem_of_getElem? (i := 36) rfl))) (mvT hZ (hw _ (List.mem_of_getElem? (i := 37) rfl))) (mvT hZ (hw _ (List.mem_of_getElem? (i := 38) rfl))) (by decide) (backOf (W := 0) (own_rm_bad l Z a0 hw [] b1 oB nB k1 LS T19.heap n0 Z19 VS_19) hZ (hw _ (List.mem_of_getElem? (i := 38) rfl)) (hw _ (List.mem_of_getElem? (i := 37) rfl)) (by decide) (by decide)) (g := (mkF m 267 #[.val (.int va), .val (.int vb), .val (.int vc), .val (.int vd), .val (.int ve), .val (.int vf), .val (.ref b1), .val (.int oA), .val (.int nA), .val (.int oB), .val (.int nB), .val (.int oC), .val (.int nC), .val (.int (0 : Int32)), .val (.int (0 : Int32)), .val (.int (1 : Int32)), .val (.ref b16), .unset] [(.int nB), (.int oB), (.ref b1)])) rfl (by rw [hml]; rfl) (argsL := [(.ref b1), (.int oB), (.int nB)]) (rest := []) (lenOf own_pd5 rfl) rfl (by show 2 * 0 + _ ≤ _; exact Nat.le_of_eq rfl) (hb hby at_267) (fun _ _ => ⟨rfl, rfl, (by decide : 4 + 0 ≤ _), (by decide : 1051 + 0 ≤ _)⟩)
          dsimp only [Pt.U, Pt.locs, Pt.cells, Pt.slots] at X20 l20 y20 z20 st20 hQ20
          subst l20 y20 z20
          obtain ⟨rfl, N20q, e20⟩ := hQ20
          refine own_Fin.go (fun t k => st20 t k) ?_
          have N20 := Fr.app N19 N20q
          show own_Fin _ _ _ _ _ _ _ (T20.setTop (mkF m 270 #[.val (.int va), .val (.int vb), .val (.int vc), .val (.int vd), .val (.int ve), .val (.int vf), .val (.ref b1), .val (.int oA), .val (.int nA), .val (.int oB), .val (.int nB), .val (.int oC), .val (.int nC), .val (.int (0 : Int32)), .val (.int (0 : Int32)), .val (.int (1 : Int32)), .val (.ref b16), .unset] [(.int (own_bad LS oB nB))]))
          by_cases hc270 : (own_bad LS oB nB) = (0 : Int32)
          · refine own_Fin.go (fun t k => XS.ifNo X20.here hx rfl (hb hby at_270) rfl (Jvm.Free.XT.i0_ne_f hc270) k) ?_
            show own_Fin _ _ _ _ _ _ _ (T20.setTop (mkF m 273 #[.val (.int va), .val (.int vb), .val (.int vc), .val (.int vd), .val (.int ve), .val (.int vf), .val (.ref b1), .val (.int oA), .val (.int nA), .val (.int oB), .val (.int nB), .val (.int oC), .val (.int nC), .val (.int (0 : Int32)), .val (.int (0 : Int32)), .val (.int (1 : Int32)), .val (.ref b16), .unset] []))
            refine own_Fin.go (fun t k => XS.iload X20.here hx rfl (hb hby at_273) rfl k) ?_
            show own_Fin _ _ _ _ _ _ _ (T20.setTop (mkF m 275 #[.val (.int va), .val (.int vb), .val (.int vc), .val (.int vd), .val (.int ve), .val (.int vf), .val (.ref b1), .val (.int oA), .val (.int nA), .val (.int oB), .val (.int nB), .val (.int oC), .val (.int nC), .val (.int (0 : Int32)), .val (.int (0 : Int32)), .val (.int (1 : Int32)), .val (.ref b16), .unset] [(.int (1 : Int32))]))
            refine own_Fin.go (fun t k => XS.ifNo X20.here hx rfl (hb hby at_275) rfl (by decide) k) ?_
            show own_Fin _ _ _ _ _ _ _ (T20.setTop (mkF m 278 #[.val (.int va), .val (.int vb), .val (.int vc), .val (.int vd), .val (.int ve), .val (.int vf), .val (.ref b1), .val (.int oA), .val (.int nA), .val (.int oB), .val (.int nB), .val (.int oC), .val (.int nC), .val (.int (0 : Int32)), .val (.int (0 : Int32)), .val (.int (1 : Int32)), .val (.ref b16), .unset] []))
            refine own_Fin.go (fun t k => XS.aload X20.here hx rfl (hb hby at_278) rfl rfl k) ?_
            show own_Fin _ _ _ _ _ _ _ (T20.setTop (mkF m 280 #[.val (.int va), .val (.int vb), .val (.int vc), .val (.int vd), .val (.int ve), .val (.int vf), .val (.ref b1), .val (.int oA), .val (.int nA), .val (.int oB), .val (.int nB), .val (.int oC), .val (.int nC), .val (.int (0 : Int32)), .val (.int (0 : Int32)), .val (.int (1 : Int32)), .val (.ref b16), .unset] [(.ref b1)]))
            refine own_Fin.go (fun t k => XS.iload X20.here hx rfl (hb hby at_280) rfl k) ?_
            show own_Fin _ _ _ _ _ _ _ (T20.setTop (mkF m 282 #[.val (.int va), .val (.int vb), .val (.int vc), .val (.int vd), .val (.int ve), .val (.int vf), .val (.ref b1), .val (.int oA), .val (.int nA), .val (.int oB), .val (.int nB), .val (.int oC), .val (.int nC), .val (.int (0 : Int32)), .val (.int (0 : Int32)), .val (.int (1 : Int32)), .val (.ref b16), .unset] [(.int oC), (.ref b1)]))
            refine own_Fin.go (fun t k => XS.iload X20.here hx rfl (hb hby at_282) rfl k) ?_
            show own_Fin _ _ _ _ _ _ _ (T20.setTop (mkF m 284 #[.val (.int va), .val (.int vb), .val (.int vc), .val (.int vd), .val (.int ve), .val (.int vf), .val (.ref b1), .val (.int oA), .val (.int nA), .val (.int oB), .val (.int nB), .val (.int oC), .val (.int nC), .val (.int (0 : Int32)), .val (.int (0 : Int32)), .val (.int (1 : Int32)), .val (.ref b16), .unset] [(.int nC), (.int oC), (.ref b1)]))
            obtain ⟨_, _, ⟨T21, L21, k21, n21⟩, -, X21, ⟨Lc21, hQ21, l21, y21, z21⟩, st21⟩ := Jvm.LawKit.callS X20 hx (y := (⟨"com/example/wardkeeper/wardkeeper/hl7/LinesAllAsciiPinLaw", "bad", "([BII)Z"⟩ : MethodName)) hown (mvT hZ (hw _ (List.mem_of_getElem? (i := 35) rfl))) (mvT hZ (hw _ (List.mem_of_getElem? (i := 36) rfl))) (mvT hZ (hw _ (List.mem_of_getElem? (i := 37) rfl))) (mvT hZ (hw _ (List.mem_of_getElem? (i := 38) rfl))) (by decide) (backOf (W := 0) (own_rm_bad l Z a0 hw [] b1 oC nC k1 LS T19.heap n0 Z19 VS_19) hZ (hw _ (List.mem_of_getElem? (i := 38) rfl)) (hw _ (List.mem_of_getElem? (i := 37) rfl)) (by decide) (by decide)) (g := (mkF m 284 #[.val (.int va), .val (.int vb), .val (.int vc), .val (.int vd), .val (.int ve), .val (.int vf), .val (.ref b1), .val (.int oA), .val (.int nA), .val (.int oB), .val (.int nB), .val (.int oC), .val (.int nC), .val (.int (0 : Int32)), .val (.int (0 : Int32)), .val (.int (1 : Int32)), .val (.ref b16), .unset] [(.int nC), (.int oC), (.ref b1)])) rfl (by rw [hml]; rfl) (argsL := [(.ref b1), (.int oC), (.int nC)]) (rest := []) (lenOf own_pd5 rfl) rfl (by show 2 * 0 + _ ≤ _; exact Nat.le_of_eq rfl) (hb hby at_284) (fun _ _ => ⟨rfl, e20, (by decide : 4 + 0 ≤ _), (by decide : 1051 + 0 ≤ _)⟩)
            dsimp only [Pt.U, Pt.locs, Pt.cells, Pt.slots] at X21 l21 y21 z21 st21 hQ21
            subst l21 y21 z21
            obtain ⟨rfl, N21q, e21⟩ := hQ21
            refine own_Fin.go (fun t k => st21 t k) ?_
            have N21 := Fr.app N20 N21q
            show own_Fin _ _ _ _ _ _ _ (T21.setTop (mkF m 287 #[.val (.int va), .val (.int vb), .val (.int vc), .val (.int vd), .val (.int ve), .val (.int vf), .val (.ref b1), .val (.int oA), .val (.int nA), .val (.int oB), .val (.int nB), .val (.int oC), .val (.int nC), .val (.int (0 : Int32)), .val (.int (0 : Int32)), .val (.int (1 : Int32)), .val (.ref b16), .unset] [(.int (own_bad LS oC nC))]))
            by_cases hc287 : (own_bad LS oC nC) = (0 : Int32)
            · refine own_Fin.go (fun t k => XS.ifNo X21.here hx rfl (hb hby at_287) rfl (Jvm.Free.XT.i0_ne_f hc287) k) ?_
              show own_Fin _ _ _ _ _ _ _ (T21.setTop (mkF m 290 #[.val (.int va), .val (.int vb), .val (.int vc), .val (.int vd), .val (.int ve), .val (.int vf), .val (.ref b1), .val (.int oA), .val (.int nA), .val (.int oB), .val (.int nB), .val (.int oC), .val (.int nC), .val (.int (0 : Int32)), .val (.int (0 : Int32)), .val (.int (1 : Int32)), .val (.ref b16), .unset] []))
              refine own_Fin.go (fun t k => XS.iconst X21.here hx rfl (hb hby at_290) k) ?_
              show own_Fin _ _ _ _ _ _ _ (T21.setTop (mkF m 291 #[.val (.int va), .val (.int vb), .val (.int vc), .val (.int vd), .val (.int ve), .val (.int vf), .val (.ref b1), .val (.int oA), .val (.int nA), .val (.int oB), .val (.int nB), .val (.int oC), .val (.int nC), .val (.int (0 : Int32)), .val (.int (0 : Int32)), .val (.int (1 : Int32)), .val (.ref b16), .unset] [(.int (1 : Int32))]))
              refine own_Fin.go (fun t k => XS.goto X21.here hx rfl (pc0 := 291) (pc' := 295) rfl (hb hby at_291) (by decide) (by decide) k) ?_
              show own_Fin _ _ _ _ _ _ _ (T21.setTop (mkF m 295 #[.val (.int va), .val (.int vb), .val (.int vc), .val (.int vd), .val (.int ve), .val (.int vf), .val (.ref b1), .val (.int oA), .val (.int nA), .val (.int oB), .val (.int nB), .val (.int oC), .val (.int nC), .val (.int (0 : Int32)), .val (.int (0 : Int32)), .val (.int (1 : Int32)), .val (.ref b16), .unset] [(.int (1 : Int32))]))
              refine own_Fin.go (fun t k => XS.istore X21.here hx rfl (hb hby at_295) rfl (l' := #[.val (.int va), .val (.int vb), .val (.int vc), .val (.int vd), .val (.int ve), .val (.int vf), .val (.ref b1), .val (.int oA), .val (.int nA), .val (.int oB), .val (.int nB), .val (.int oC), .val (.int nC), .val (.int (0 : Int32)), .val (.int (0 : Int32)), .val (.int (1 : Int32)), .val (.ref b16), .val (.int (1 : Int32))]) rfl k) ?_
              show own_Fin _ _ _ _ _ _ _ (T21.setTop (mkF m 297 #[.val (.int va), .val (.int vb), .val (.int vc), .val (.int vd), .val (.int ve), .val (.int vf), .val (.ref b1), .val (.int oA), .val (.int nA), .val (.int oB), .val (.int nB), .val (.int oC), .val (.int nC), .val (.int (0 : Int32)), .val (.int (0 : Int32)), .val (.int (1 : Int32)), .val (.ref b16), .val (.int (1 : Int32))] []))
              refine own_Fin.go (fun t k => XS.aload X21.here hx rfl (hb hby at_297) rfl rfl k) ?_
              show own_Fin _ _ _ _ _ _ _ (T21.setTop (mkF m 299 #[.val (.int va), .val (.int vb), .val (.int vc), .val (.int vd), .val (.int ve), .val (.int vf), .val (.ref b1), .val (.int oA), .val (.int nA), .val (.int oB), .val (.int nB), .val (.int oC), .val (.int nC), .val (.int (0 : Int32)), .val (.int (0 : Int32)), .val (.int (1 : Int32)), .val (.ref b16), .val (.int (1 : Int32))] [(.ref b16)]))
              obtain ⟨cq22, kq22, q22a, q22b, q22c⟩ := isOf hZ e21 c19_1
              obtain ⟨_, _, ⟨T22, L22, k22, n22⟩, -, X22, ⟨Lc22, hQ22, l22, y22, z22⟩, st22⟩ := X21.virtualBack hx (y := (⟨"com/example/wardkeeper/wardkeeper/hl7/Lines", "allAscii", "()Z"⟩ : MethodName)) (z := (⟨"com/example/wardkeeper/wardkeeper/hl7/Lines", "allAscii", "()Z"⟩ : MethodName)) hown (mvT hZ (hw _ (List.mem_of_getElem? (i := 42) rfl))) (mvT hZ (hw _ (List.mem_of_getElem? (i := 43) rfl))) (notFace_of_selects (args := #[]) (mvT hZ (hw _ (List.mem_of_getElem? (i := 45) rfl)))) (mvT hZ (hw _ (List.mem_of_getElem? (i := 45) rfl))) (mvT hZ (hw _ (List.mem_of_getElem? (i := 44) rfl))) (by decide) (backOf (W := 0) (own_rm_aa2 l Z a0 hw [] b16 ob17 kb17 (own_cp (own_cp (List.replicate 1024 (0 : Int32)) LS (0 : Int32) oB nB) LS ((0 : Int32) + nB) oC nC) oe17 ke17 ((0 : Int32) + nB) (((0 : Int32) + nB) + nC) (0 : Int32) T19.heap n0 Z19 c19_1 c19_2 c19_3 c19_4 c19_5 c19_6 (own_up hO19.1 (by decide)) hL19) hZ (hw _ (List.mem_of_getElem? (i := 46) rfl)) (hw _ (List.mem_of_getElem? (i := 3) rfl)) (by decide) (by decide)) q22a q22c (g := (mkF m 299 #[.val (.int va), .val (.int vb), .val (.int vc), .val (.int vd), .val (.int ve), .val (.int vf), .val (.ref b1), .val (.int oA), .val (.int nA), .val (.int oB), .val (.int nB), .val (.int oC), .val (.int nC), .val (.int (0 : Int32)), .val (.int (0 : Int32)), .val (.int (1 : Int32)), .val (.ref b16), .val (.int (1 : Int32))] [(.ref b16)])) rfl (by rw [hml]; rfl) (Steps.refl _) (argsL := []) (rest := []) (lenOf own_pd6 rfl) rfl (by show 2 * 0 + _ ≤ _; exact Nat.le_of_eq rfl) (hb hby at_299) (fun _ _ => ⟨rfl, e21, (by decide : 4 + 0 ≤ _), (by decide : 1051 + 0 ≤ _)⟩)
              dsimp only [Pt.U, Pt.locs, Pt.cells, Pt.slots] at X22 l22 y22 z22 st22 hQ22
              subst l22 y22 z22
              obtain ⟨rfl, N22q, e22⟩ := hQ22
              refine own_Fin.go (fun t k => st22.trans k) ?_
              have N22 := Fr.app N21 N22q
              show own_Fin _ _ _ _ _ _ _ (T22.setTop (mkF m 302 #[.val (.int va), .val (.int vb), .val (.int vc), .val (.int vd), .val (.int ve), .val (.int vf), .val (.ref b1), .val (.int oA), .val (.int nA), .val (.int oB), .val (.int nB), .val (.int oC), .val (.int nC), .val (.int (0 : Int32)), .val (.int (0 : Int32)), .val (.int (1 : Int32)), .val (.ref b16), .val (.int (1 : Int32))] [(.int (own_all (own_cp (own_cp (List.replicate 1024 (0 : Int32)) LS (0 : Int32) oB nB) LS ((0 : Int32) + nB) oC nC) (((0 : Int32) + nB) + nC)))]))
              refine own_Fin.go (fun t k => XS.iload X22.here hx rfl (hb hby at_302) rfl k) ?_
              show own_Fin _ _ _ _ _ _ _ (T22.setTop (mkF m 304 #[.val (.int va), .val (.int vb), .val (.int vc), .val (.int vd), .val (.int ve), .val (.int vf), .val (.ref b1), .val (.int oA), .val (.int nA), .val (.int oB), .val (.int nB), .val (.int oC), .val (.int nC), .val (.int (0 : Int32)), .val (.int (0 : Int32)), .val (.int (1 : Int32)), .val (.ref b16), .val (.int (1 : Int32))] [(.int (1 : Int32)), (.int (own_all (own_cp (own_cp (List.replicate 1024 (0 : Int32)) LS (0 : Int32) oB nB) LS ((0 : Int32) + nB) oC nC) (((0 : Int32) + nB) + nC)))]))
              have hc304 : (own_all (own_cp (own_cp (List.replicate 1024 (0 : Int32)) LS (0 : Int32) oB nB) LS ((0 : Int32) + nB) oC nC) (((0 : Int32) + nB) + nC)) = (1 : Int32) := own_all1 hT19 (own_app (own_app own_nil (own_good hJ138.2.1 hc270)) (own_good hJ138.2.2 hc287))
              refine own_Fin.go (fun t k => XS.icmpNo X22.here hx rfl (hb hby at_304) rfl (Jvm.Free.XT.ii_ne_f hc304) k) ?_
              show own_Fin _ _ _ _ _ _ _ (T22.setTop (mkF m 307 #[.val (.int va), .val (.int vb), .val (.int vc), .val (.int vd), .val (.int ve), .val (.int vf), .val (.ref b1), .val (.int oA), .val (.int nA), .val (.int oB), .val (.int nB), .val (.int oC), .val (.int nC), .val (.int (0 : Int32)), .val (.int (0 : Int32)), .val (.int (1 : Int32)), .val (.ref b16), .val (.int (1 : Int32))] []))
              refine own_Fin.go (fun t k => XS.iconst X22.here hx rfl (hb hby at_307) k) ?_
              show own_Fin _ _ _ _ _ _ _ (T22.setTop (mkF m 308 #[.val (.int va), .val (.int vb), .val (.int vc), .val (.int vd), .val (.int ve), .val (.int vf), .val (.ref b1), .val (.int oA), .val (.int nA), .val (.int oB), .val (.int nB), .val (.int oC), .val (.int nC), .val (.int (0 : Int32)), .val (.int (0 : Int32)), .val (.int (1 : Int32)), .val (.ref b16), .val (.int (1 : Int32))] [(.int (1 : Int32))]))
              refine own_Fin.go (fun t k => XS.goto X22.here hx rfl (pc0 := 308) (pc' := 312) rfl (hb hby at_308) (by decide) (by decide) k) ?_
              show own_Fin _ _ _ _ _ _ _ (T22.setTop (mkF m 312 #[.val (.int va), .val (.int vb), .val (.int vc), .val (.int vd), .val (.int ve), .val (.int vf), .val (.ref b1), .val (.int oA), .val (.int nA), .val (.int oB), .val (.int nB), .val (.int oC), .val (.int nC), .val (.int (0 : Int32)), .val (.int (0 : Int32)), .val (.int (1 : Int32)), .val (.ref b16), .val (.int (1 : Int32))] [(.int (1 : Int32))]))
              refine own_retN X22 hx (t := .boolean) (w := (1 : Int32)) Bd.returns (by simp) (hb hby at_312) Bd.notSynchronized rfl (by decide) (by decide) ?_
              rw [e22]
              exact ⟨rfl, N22⟩
            · refine own_Fin.go (fun t k => XS.ifYes X21.here hx rfl (pc0 := 287) (pc' := 294) rfl (hb hby at_287) rfl (Jvm.Free.XT.i0_ne_t hc287) (by decide) (by decide) k) ?_
              show own_Fin _ _ _ _ _ _ _ (T21.setTop (mkF m 294 #[.val (.int va), .val (.int vb), .val (.int vc), .val (.int vd), .val (.int ve), .val (.int vf), .val (.ref b1), .val (.int oA), .val (.int nA), .val (.int oB), .val (.int nB), .val (.int oC), .val (.int nC), .val (.int (0 : Int32)), .val (.int (0 : Int32)), .val (.int (1 : Int32)), .val (.ref b16), .unset] []))
              refine own_Fin.go (fun t k => XS.iconst X21.here hx rfl (hb hby at_294) k) ?_
              show own_Fin _ _ _ _ _ _ _ (T21.setTop (mkF m 295 #[.val (.int va), .val (.int vb), .val (.int vc), .val (.int vd), .val (.int ve), .val (.int vf), .val (.ref b1), .val (.int oA), .val (.int nA), .val (.int oB), .val (.int nB), .val (.int oC), .val (.int nC), .val (.int (0 : Int32)), .val (.int (0 : Int32)), .val (.int (1 : Int32)), .val (.ref b16), .unset] [(.int (0 : Int32))]))
              refine own_Fin.go (fun t k => XS.istore X21.here hx rfl (hb hby at_295) rfl (l' := #[.val (.int va), .val (.int vb), .val (.int vc), .val (.int vd), .val (.int ve), .val (.int vf), .val (.ref b1), .val (.int oA), .val (.int nA), .val (.int oB), .val (.int nB), .val (.int oC), .val (.int nC), .val (.int (0 : Int32)), .val (.int (0 : Int32)), .val (.int (1 : Int32)), .val (.ref b16), .val (.int (0 : Int32))]) rfl k) ?_
              show own_Fin _ _ _ _ _ _ _ (T21.setTop (mkF m 297 #[.val (.int va), .val (.int vb), .val (.int vc), .val (.int vd), .val (.int ve), .val (.int vf), .val (.ref b1), .val (.int oA), .val (.int nA), .val (.int oB), .val (.int nB), .val (.int oC), .val (.int nC), .val (.int (0 : Int32)), .val (.int (0 : Int32)), .val (.int (1 : Int32)), .val (.ref b16), .val (.int (0 : Int32))] []))
              refine own_Fin.go (fun t k => XS.aload X21.here hx rfl (hb hby at_297) rfl rfl k) ?_
              show own_Fin _ _ _ _ _ _ _ (T21.setTop (mkF m 299 #[.val (.int va), .val (.int vb), .val (.int vc), .val (.int vd), .val (.int ve), .val (.int vf), .val (.ref b1), .val (.int oA), .val (.int nA), .val (.int oB), .val (.int nB), .val (.int oC), .val (.int nC), .val (.int (0 : Int32)), .val (.int (0 : Int32)), .val (.int (1 : Int32)), .val (.ref b16), .val (.int (0 : Int32))] [(.ref b16)]))
              obtain ⟨cq23, kq23, q23a, q23b, q23c⟩ := isOf hZ e21 c19_1
              obtain ⟨_, _, ⟨T23, L23, k23, n23⟩, -, X23, ⟨Lc23, hQ23, l23, y23, z23⟩, st23⟩ := X21.virtualBack hx (y := (⟨"com/example/wardkeeper/wardkeeper/hl7/Lines", "allAscii", "()Z"⟩ : MethodName)) (z := (⟨"com/example/wardkeeper/wardkeeper/hl7/Lines", "allAscii", "()Z"⟩ : MethodName)) hown (mvT hZ (hw _ (List.mem_of_getElem? (i := 42) rfl))) (mvT hZ (hw _ (List.mem_of_getElem? (i := 43) rfl))) (notFace_of_selects (args := #[]) (mvT hZ (hw _ (List.mem_of_getElem? (i := 45) rfl)))) (mvT hZ (hw _ (List.mem_of_getElem? (i := 45) rfl))) (mvT hZ (hw _ (List.mem_of_getElem? (i := 44) rfl))) (by decide) (backOf (W := 0) (own_rm_aa2 l Z a0 hw [] b16 ob17 kb17 (own_cp (own_cp (List.replicate 1024 (0 : Int32)) LS (0 : Int32) oB nB) LS ((0 : Int32) + nB) oC nC) oe17 ke17 ((0 : Int32) + nB) (((0 : Int32) + nB) + nC) (0 : Int32) T19.heap n0 Z19 c19_1 c19_2 c19_3 c19_4 c19_5 c19_6 (own_up hO19.1 (by decide)) hL19) hZ (hw _ (List.mem_of_getElem? (i := 46) rfl)) (hw _ (List.mem_of_getElem? (i := 3) rfl)) (by decide) (by decide)) q23a q23c (g := (mkF m 299 #[.val (.int va), .val (.int vb), .val (.int vc), .val (.int vd), .val (.int ve), .val (.int vf), .val (.ref b1), .val (.int oA), .val (.int nA), .val (.int oB), .val (.int nB), .val (.int oC), .val (.int nC), .val (.int (0 : Int32)), .val (.int (0 : Int32)), .val (.int (1 : Int32)), .val (.ref b16), .val (.int (0 : Int32))] [(.ref b16)])) rfl (by rw [hml]; rfl) (Steps.refl _) (argsL := []) (rest := []) (lenOf own_pd6 rfl) rfl (by show 2 * 0 + _ ≤ _; exact Nat.le_of_eq rfl) (hb hby at_299) (fun _ _ => ⟨rfl, e21, (by decide : 4 + 0 ≤ _), (by decide : 1051 + 0 ≤ _)⟩)
              dsimp only [Pt.U, Pt.locs, Pt.cells, Pt.slots] at X23 l23 y23 z23 st23 hQ23
              subst l23 y23 z23
              obtain ⟨rfl, N23q, e23⟩ := hQ23
              refine own_Fin.go (fun t k => st23.trans k) ?_
              have N23 := Fr.app N21 N23q
              show own_Fin _ _ _ _ _ _ _ (T23.setTop (mkF m 302 #[.val (.int va), .val (.int vb), .val (.int vc), .val (.int vd), .val (.int ve), .val (.int vf), .val (.ref b1), .val (.int oA), .val (.int nA), .val (.int oB), .val (.int nB), .val (.int oC), .val (.int nC), .val (.int (0 : Int32)), .val (.int (0 : Int32)), .val (.int (1 : Int32)), .val (.ref b16), .val (.int (0 : Int32))] [(.int (own_all (own_cp (own_cp (List.replicate 1024 (0 : Int32)) LS (0 : Int32) oB nB) LS ((0 : Int32) + nB) oC nC) (((0 : Int32) + nB) + nC)))]))
              refine own_Fin.go (fun t k => XS.iload X23.here hx rfl (hb hby at_302) rfl k) ?_
              show own_Fin _ _ _ _ _ _ _ (T23.setTop (mkF m 304 #[.val (.int va), .val (.int vb), .val (.int vc), .val (.int vd), .val (.int ve), .val (.int vf), .val (.ref b1), .val (.int oA), .val (.int nA), .val (.int oB), .val (.int nB), .val (.int oC), .val (.int nC), .val (.int (0 : Int32)), .val (.int (0 : Int32)), .val (.int (1 : Int32)), .val (.ref b16), .val (.int (0 : Int32))] [(.int (0 : Int32)), (.int (own_all (own_cp (own_cp (List.replicate 1024 (0 : Int32)) LS (0 : Int32) oB nB) LS ((0 : Int32) + nB) oC nC) (((0 : Int32) + nB) + nC)))]))
              have hc304 : (own_all (own_cp (own_cp (List.replicate 1024 (0 : Int32)) LS (0 : Int32) oB nB) LS ((0 : Int32) + nB) oC nC) (((0 : Int32) + nB) + nC)) = (0 : Int32) := own_all0 hT19 (own_inr (own_evil hJ138.2.2 hc287))
              refine own_Fin.go (fun t k => XS.icmpNo X23.here hx rfl (hb hby at_304) rfl (Jvm.Free.XT.ii_ne_f hc304) k) ?_
              show own_Fin _ _ _ _ _ _ _ (T23.setTop (mkF m 307 #[.val (.int va), .val (.int vb), .val (.int vc), .val (.int vd), .val (.int ve), .val (.int vf), .val (.ref b1), .val (.int oA), .val (.int nA), .val (.int oB), .val (.int nB), .val (.int oC), .val (.int nC), .val (.int (0 : Int32)), .val (.int (0 : Int32)), .val (.int (1 : Int32)), .val (.ref b16), .val (.int (0 : Int32))] []))
              refine own_Fin.go (fun t k => XS.iconst X23.here hx rfl (hb hby at_307) k) ?_
              show own_Fin _ _ _ _ _ _ _ (T23.setTop (mkF m 308 #[.val (.int va), .val (.int vb), .val (.int vc), .val (.int vd), .val (.int ve), .val (.int vf), .val (.ref b1), .val (.int oA), .val (.int nA), .val (.int oB), .val (.int nB), .val (.int oC), .val (.int nC), .val (.int (0 : Int32)), .val (.int (0 : Int32)), .val (.int (1 : Int32)), .val (.ref b16), .val (.int (0 : Int32))] [(.int (1 : Int32))]))
              refine own_Fin.go (fun t k => XS.goto X23.here hx rfl (pc0 := 308) (pc' := 312) rfl (hb hby at_308) (by decide) (by decide) k) ?_
              show own_Fin _ _ _ _ _ _ _ (T23.setTop (mkF m 312 #[.val (.int va), .val (.int vb), .val (.int vc), .val (.int vd), .val (.int ve), .val (.int vf), .val (.ref b1), .val (.int oA), .val (.int nA), .val (.int oB), .val (.int nB), .val (.int oC), .val (.int nC), .val (.int (0 : Int32)), .val (.int (0 : Int32)), .val (.int (1 : Int32)), .val (.ref b16), .val (.int (0 : Int32))] [(.int (1 : Int32))]))
              refine own_retN X23 hx (t := .boolean) (w := (1 : Int32)) Bd.returns (by simp) (hb hby at_312) Bd.notSynchronized rfl (by decide) (by decide) ?_
              rw [e23]
              exact ⟨rfl, N23⟩
          · refine own_Fin.go (fun t k => XS.ifYes X20.here hx rfl (pc0 := 270) (pc' := 294) rfl (hb hby at_270) rfl (Jvm.Free.XT.i0_ne_t hc270) (by decide) (by decide) k) ?_
            show own_Fin _ _ _ _ _ _ _ (T20.setTop (mkF m 294 #[.val (.int va), .val (.int vb), .val (.int vc), .val (.int vd), .val (.int ve), .val (.int vf), .val (.ref b1), .val (.int oA), .val (.int nA), .val (.int oB), .val (.int nB), .val (.int oC), .val (.int nC), .val (.int (0 : Int32)), .val (.int (0 : Int32)), .val (.int (1 : Int32)), .val (.ref b16), .unset] []))
            refine own_Fin.go (fun t k => XS.iconst X20.here hx rfl (hb hby at_294) k) ?_
            show own_Fin _ _ _ _ _ _ _ (T20.setTop (mkF m 295 #[.val (.int va), .val (.int vb), .val (.int vc), .val (.int vd), .val (.int ve), .val (.int vf), .val (.ref b1), .val (.int oA), .val (.int nA), .val (.int oB), .val (.int nB), .val (.int oC), .val (.int nC), .val (.int (0 : Int32)), .val (.int (0 : Int32)), .val (.int (1 : Int32)), .val (.ref b16), .unset] [(.int (0 : Int32))]))
            refine own_Fin.go (fun t k => XS.istore X20.here hx rfl (hb hby at_295) rfl (l' := #[.val (.int va), .val (.int vb), .val (.int vc), .val (.int vd), .val (.int ve), .val (.int vf), .val (.ref b1), .val (.int oA), .val (.int nA), .val (.int oB), .val (.int nB), .val (.int oC), .val (.int nC), .val (.int (0 : Int32)), .val (.int (0 : Int32)), .val (.int (1 : Int32)), .val (.ref b16), .val (.int (0 : Int32))]) rfl k) ?_
            show own_Fin _ _ _ _ _ _ _ (T20.setTop (mkF m 297 #[.val (.int va), .val (.int vb), .val (.int vc), .val (.int vd), .val (.int ve), .val (.int vf), .val (.ref b1), .val (.int oA), .val (.int nA), .val (.int oB), .val (.int nB), .val (.int oC), .val (.int nC), .val (.int (0 : Int32)), .val (.int (0 : Int32)), .val (.int (1 : Int32)), .val (.ref b16), .val (.int (0 : Int32))] []))
            refine own_Fin.go (fun t k => XS.aload X20.here hx rfl (hb hby at_297) rfl rfl k) ?_
            show own_Fin _ _ _ _ _ _ _ (T20.setTop (mkF m 299 #[.val (.int va), .val (.int vb), .val (.int vc), .val (.int vd), .val (.int ve), .val (.int vf), .val (.ref b1), .val (.int oA), .val (.int nA), .val (.int oB), .val (.int nB), .val (.int oC), .val (.int nC), .val (.int (0 : Int32)), .val (.int (0 : Int32)), .val (.int (1 : Int32)), .val (.ref b16), .val (.int (0 : Int32))] [(.ref b16)]))
            obtain ⟨cq24, kq24, q24a, q24b, q24c⟩ := isOf hZ e20 c19_1
            obtain ⟨_, _, ⟨T24, L24, k24, n24⟩, -, X24, ⟨Lc24, hQ24, l24, y24, z24⟩, st24⟩ := X20.virtualBack hx (y := (⟨"com/example/wardkeeper/wardkeeper/hl7/Lines", "allAscii", "()Z"⟩ : MethodName)) (z := (⟨"com/example/wardkeeper/wardkeeper/hl7/Lines", "allAscii", "()Z"⟩ : MethodName)) hown (mvT hZ (hw _ (List.mem_of_getElem? (i := 42) rfl))) (mvT hZ (hw _ (List.mem_of_getElem? (i := 43) rfl))) (notFace_of_selects (args := #[]) (mvT hZ (hw _ (List.mem_of_getElem? (i := 45) rfl)))) (mvT hZ (hw _ (List.mem_of_getElem? (i := 45) rfl))) (mvT hZ (hw _ (List.mem_of_getElem? (i := 44) rfl))) (by decide) (backOf (W := 0) (own_rm_aa2 l Z a0 hw [] b16 ob17 kb17 (own_cp (own_cp (List.replicate 1024 (0 : Int32)) LS (0 : Int32) oB nB) LS ((0 : Int32) + nB) oC nC) oe17 ke17 ((0 : Int32) + nB) (((0 : Int32) + nB) + nC) (0 : Int32) T19.heap n0 Z19 c19_1 c19_2 c19_3 c19_4 c19_5 c19_6 (own_up hO19.1 (by decide)) hL19) hZ (hw _ (List.mem_of_getElem? (i := 46) rfl)) (hw _ (List.mem_of_getElem? (i := 3) rfl)) (by decide) (by decide)) q24a q24c (g := (mkF m 299 #[.val (.int va), .val (.int vb), .val (.int vc), .val (.int vd), .val (.int ve), .val (.int vf), .val (.ref b1), .val (.int oA), .val (.int nA), .val (.int oB), .val (.int nB), .val (.int oC), .val (.int nC), .val (.int (0 : Int32)), .val (.int (0 : Int32)), .val (.int (1 : Int32)), .val (.ref b16), .val (.int (0 : Int32))] [(.ref b16)])) rfl (by rw [hml]; rfl) (Steps.refl _) (argsL := []) (rest := []) (lenOf own_pd6 rfl) rfl (by show 2 * 0 + _ ≤ _; exact Nat.le_of_eq rfl) (hb hby at_299) (fun _ _ => ⟨rfl, e20, (by decide : 4 + 0 ≤ _), (by decide : 1051 + 0 ≤ _)⟩)
            dsimp only [Pt.U, Pt.locs, Pt.cells, Pt.slots] at X24 l24 y24 z24 st24 hQ24
            subst l24 y24 z24
            obtain ⟨rfl, N24q, e24⟩ := hQ24
            refine own_Fin.go (fun t k => st24.trans k) ?_
            have N24 := Fr.app N20 N24q
            show own_Fin _ _ _ _ _ _ _ (T24.setTop (mkF m 302 #[.val (.int va), .val (.int vb), .val (.int vc), .val (.int vd), .val (.int ve), .val (.int vf), .val (.ref b1), .val (.int oA), .val (.int nA), .val (.int oB), .val (.int nB), .val (.int oC), .val (.int nC), .val (.int (0 : Int32)), .val (.int (0 : Int32)), .val (.int (1 : Int32)), .val (.ref b16), .val (.int (0 : Int32))] [(.int (own_all (own_cp (own_cp (List.replicate 1024 (0 : Int32)) LS (0 : Int32) oB nB) LS ((0 : Int32) + nB) oC nC) (((0 : Int32) + nB) + nC)))]))
            refine own_Fin.go (fun t k => XS.iload X24.here hx rfl (hb hby at_302) rfl k) ?_
            show own_Fin _ _ _ _ _ _ _ (T24.setTop (mkF m 304 #[.val (.int va), .val (.int vb), .val (.int vc), .val (.int vd), .val (.int ve), .val (.int vf), .val (.ref b1), .val (.int oA), .val (.int nA), .val (.int oB), .val (.int nB), .val (.int oC), .val (.int nC), .val (.int (0 : Int32)), .val (.int (0 : Int32)), .val (.int (1 : Int32)), .val (.ref b16), .val (.int (0 : Int32))] [(.int (0 : Int32)), (.int (own_all (own_cp (own_cp (List.replicate 1024 (0 : Int32)) LS (0 : Int32) oB nB) LS ((0 : Int32) + nB) oC nC) (((0 : Int32) + nB) + nC)))]))
            have hc304 : (own_all (own_cp (own_cp (List.replicate 1024 (0 : Int32)) LS (0 : Int32) oB nB) LS ((0 : Int32) + nB) oC nC) (((0 : Int32) + nB) + nC)) = (0 : Int32) := own_all0 hT19 (own_inl (own_inr (own_evil hJ138.2.1 hc270)))
            refine own_Fin.go (fun t k => XS.icmpNo X24.here hx rfl (hb hby at_304) rfl (Jvm.Free.XT.ii_ne_f hc304) k) ?_
            show own_Fin _ _ _ _ _ _ _ (T24.setTop (mkF m 307 #[.val (.int va), .val (.int vb), .val (.int vc), .val (.int vd), .val (.int ve), .val (.int vf), .val (.ref b1), .val (.int oA), .val (.int nA), .val (.int oB), .val (.int nB), .val (.int oC), .val (.int nC), .val (.int (0 : Int32)), .val (.int (0 : Int32)), .val (.int (1 : Int32)), .val (.ref b16), .val (.int (0 : Int32))] []))
            refine own_Fin.go (fun t k => XS.iconst X24.here hx rfl (hb hby at_307) k) ?_
            show own_Fin _ _ _ _ _ _ _ (T24.setTop (mkF m 308 #[.val (.int va), .val (.int vb), .val (.int vc), .val (.int vd), .val (.int ve), .val (.int vf), .val (.ref b1), .val (.int oA), .val (.int nA), .val (.int oB), .val (.int nB), .val (.int oC), .val (.int nC), .val (.int (0 : Int32)), .val (.int (0 : Int32)), .val (.int (1 : Int32)), .val (.ref b16), .val (.int (0 : Int32))] [(.int (1 : Int32))]))
            refine own_Fin.go (fun t k => XS.goto X24.here hx rfl (pc0 := 308) (pc' := 312) rfl (hb hby at_308) (by decide) (by decide) k) ?_
            show own_Fin _ _ _ _ _ _ _ (T24.setTop (mkF m 312 #[.val (.int va), .val (.int vb), .val (.int vc), .val (.int vd), .val (.int ve), .val (.int vf), .val (.ref b1), .val (.int oA), .val (.int nA), .val (.int oB), .val (.int nB), .val (.int oC), .val (.int nC), .val (.int (0 : Int32)), .val (.int (0 : Int32)), .val (.int (1 : Int32)), .val (.ref b16), .val (.int (0 : Int32))] [(.int (1 : Int32))]))
            refine own_retN X24 hx (t := .boolean) (w := (1 : Int32)) Bd.returns (by simp) (hb hby at_312) Bd.notSynchronized rfl (by decide) (by decide) ?_
            rw [e24]
            exact ⟨rfl, N24⟩
      · refine own_Fin.go (fun t k => XS.ifNo X9.here hx rfl (hb hby at_154) rfl (Jvm.Free.XT.i0_eq_f hc154) k) ?_
        show own_Fin _ _ _ _ _ _ _ (T9.setTop (mkF m 157 #[.val (.int va), .val (.int vb), .val (.int vc), .val (.int vd), .val (.int ve), .val (.int vf), .val (.ref b1), .val (.int oA), .val (.int nA), .val (.int oB), .val (.int nB), .val (.int oC), .val (.int nC), .val (.int (0 : Int32)), .unset, .unset, .unset, .unset] []))
        refine own_Fin.go (fun t k => XS.iconst X9.here hx rfl (hb hby at_157) k) ?_
        show own_Fin _ _ _ _ _ _ _ (T9.setTop (mkF m 158 #[.val (.int va), .val (.int vb), .val (.int vc), .val (.int vd), .val (.int ve), .val (.int vf), .val (.ref b1), .val (.int oA), .val (.int nA), .val (.int oB), .val (.int nB), .val (.int oC), .val (.int nC), .val (.int (0 : Int32)), .unset, .unset, .unset, .unset] [(.int (1 : Int32))]))
        refine own_Fin.go (fun t k => XS.goto X9.here hx rfl (pc0 := 158) (pc' := 162) rfl (hb hby at_158) (by decide) (by decide) k) ?_
        show own_Fin _ _ _ _ _ _ _ (T9.setTop (mkF m 162 #[.val (.int va), .val (.int vb), .val (.int vc), .val (.int vd), .val (.int ve), .val (.int vf), .val (.ref b1), .val (.int oA), .val (.int nA), .val (.int oB), .val (.int nB), .val (.int oC), .val (.int nC), .val (.int (0 : Int32)), .unset, .unset, .unset, .unset] [(.int (1 : Int32))]))
        refine own_Fin.go (fun t k => XS.istore X9.here hx rfl (hb hby at_162) rfl (l' := #[.val (.int va), .val (.int vb), .val (.int vc), .val (.int vd), .val (.int ve), .val (.int vf), .val (.ref b1), .val (.int oA), .val (.int nA), .val (.int oB), .val (.int nB), .val (.int oC), .val (.int nC), .val (.int (0 : Int32)), .val (.int (1 : Int32)), .unset, .unset, .unset]) rfl k) ?_
        show own_Fin _ _ _ _ _ _ _ (T9.setTop (mkF m 164 #[.val (.int va), .val (.int vb), .val (.int vc), .val (.int vd), .val (.int ve), .val (.int vf), .val (.ref b1), .val (.int oA), .val (.int nA), .val (.int oB), .val (.int nB), .val (.int oC), .val (.int nC), .val (.int (0 : Int32)), .val (.int (1 : Int32)), .unset, .unset, .unset] []))
        refine own_Fin.go (fun t k => XS.iloadN X9.here hx rfl (hb hby at_164) rfl k) ?_
        show own_Fin _ _ _ _ _ _ _ (T9.setTop (mkF m 165 #[.val (.int va), .val (.int vb), .val (.int vc), .val (.int vd), .val (.int ve), .val (.int vf), .val (.ref b1), .val (.int oA), .val (.int nA), .val (.int oB), .val (.int nB), .val (.int oC), .val (.int nC), .val (.int (0 : Int32)), .val (.int (1 : Int32)), .unset, .unset, .unset] [(.int vc)]))
        refine own_Fin.go (fun t k => XS.iconst X9.here hx rfl (hb hby at_165) k) ?_
        show own_Fin _ _ _ _ _ _ _ (T9.setTop (mkF m 166 #[.val (.int va), .val (.int vb), .val (.int vc), .val (.int vd), .val (.int ve), .val (.int vf), .val (.ref b1), .val (.int oA), .val (.int nA), .val (.int oB), .val (.int nB), .val (.int oC), .val (.int nC), .val (.int (0 : Int32)), .val (.int (1 : Int32)), .unset, .unset, .unset] [(.int (4 : Int32)), (.int vc)]))
        refine own_Fin.go (fun t k => XS.iand X9.here hx rfl (hb hby at_166) rfl k) ?_
        show own_Fin _ _ _ _ _ _ _ (T9.setTop (mkF m 167 #[.val (.int va), .val (.int vb), .val (.int vc), .val (.int vd), .val (.int ve), .val (.int vf), .val (.ref b1), .val (.int oA), .val (.int nA), .val (.int oB), .val (.int nB), .val (.int oC), .val (.int nC), .val (.int (0 : Int32)), .val (.int (1 : Int32)), .unset, .unset, .unset] [(.int (vc &&& (4 : Int32)))]))
        by_cases hc167 : (vc &&& (4 : Int32)) = (0 : Int32)
        · refine own_Fin.go (fun t k => XS.ifYes X9.here hx rfl (pc0 := 167) (pc' := 174) rfl (hb hby at_167) rfl (Jvm.Free.XT.i0_eq_t hc167) (by decide) (by decide) k) ?_
          show own_Fin _ _ _ _ _ _ _ (T9.setTop (mkF m 174 #[.val (.int va), .val (.int vb), .val (.int vc), .val (.int vd), .val (.int ve), .val (.int vf), .val (.ref b1), .val (.int oA), .val (.int nA), .val (.int oB), .val (.int nB), .val (.int oC), .val (.int nC), .val (.int (0 : Int32)), .val (.int (1 : Int32)), .unset, .unset, .unset] []))
          refine own_Fin.go (fun t k => XS.iconst X9.here hx rfl (hb hby at_174) k) ?_
          show own_Fin _ _ _ _ _ _ _ (T9.setTop (mkF m 175 #[.val (.int va), .val (.int vb), .val (.int vc), .val (.int vd), .val (.int ve), .val (.int vf), .val (.ref b1), .val (.int oA), .val (.int nA), .val (.int oB), .val (.int nB), .val (.int oC), .val (.int nC), .val (.int (0 : Int32)), .val (.int (1 : Int32)), .unset, .unset, .unset] [(.int (0 : Int32))]))
          refine own_Fin.go (fun t k => XS.istore X9.here hx rfl (hb hby at_175) rfl (l' := #[.val (.int va), .val (.int vb), .val (.int vc), .val (.int vd), .val (.int ve), .val (.int vf), .val (.ref b1), .val (.int oA), .val (.int nA), .val (.int oB), .val (.int nB), .val (.int oC), .val (.int nC), .val (.int (0 : Int32)), .val (.int (1 : Int32)), .val (.int (0 : Int32)), .unset, .unset]) rfl k) ?_
          show own_Fin _ _ _ _ _ _ _ (T9.setTop (mkF m 177 #[.val (.int va), .val (.int vb), .val (.int vc), .val (.int vd), .val (.int ve), .val (.int vf), .val (.ref b1), .val (.int oA), .val (.int nA), .val (.int oB), .val (.int nB), .val (.int oC), .val (.int nC), .val (.int (0 : Int32)), .val (.int (1 : Int32)), .val (.int (0 : Int32)), .unset, .unset] []))
          obtain ⟨T25, h25, X25, e25, E25, A25, D25, -, st25⟩ := newO X9 hx hZ hown (hw _ (List.mem_of_getElem? (i := 1) rfl)) (hw _ (List.mem_of_getElem? (i := 2) rfl)) (hw _ (List.mem_of_getElem? (i := 3) rfl)) e9 (g := (mkF m 177 #[.val (.int va), .val (.int vb), .val (.int vc), .val (.int vd), .val (.int ve), .val (.int vf), .val (.ref b1), .val (.int oA), .val (.int nA), .val (.int oB), .val (.int nB), .val (.int oC), .val (.int nC), .val (.int (0 : Int32)), .val (.int (1 : Int32)), .val (.int (0 : Int32)), .unset, .unset] [])) rfl (hb hby at_177) (by decide) (by decide)
          obtain ⟨b25, g25⟩ : ∃ z, z = h9.size := ⟨_, rfl⟩
          rw [← g25] at A25 D25 st25
          refine own_Fin.go st25 ?_
          have g_b25 : n0 ≤ b25 := Nat.le_trans Z9 (Nat.le_of_eq g25.symm)
          have ne_b1_b25 : b1 ≠ b25 := Nat.ne_of_lt (Nat.lt_of_lt_of_le VS.lt (Nat.le_of_eq g25.symm))
          have VS_25 := VS.ext E25
          have Z25 := Nat.le_trans Z9 E25.1
          have F_b25_bytes : Fld Z h25 b25 "com/example/wardkeeper/wardkeeper/hl7/Lines" "bytes" "[B" .null := D25 (Or.inl (hw _ (List.mem_of_getElem? (i := 11) rfl))) (ty := (.array .byte)) (by decide)
          have F_b25_ends : Fld Z h25 b25 "com/example/wardkeeper/wardkeeper/hl7/Lines" "ends" "[I" .null := D25 (Or.inl (hw _ (List.mem_of_getElem? (i := 14) rfl))) (ty := (.array .int)) (by decide)
          have F_b25_count : Fld Z h25 b25 "com/example/wardkeeper/wardkeeper/hl7/Lines" "count" "I" (.int (0 : Int32)) := D25 (Or.inl (hw _ (List.mem_of_getElem? (i := 21) rfl))) (ty := .int) (by decide)
          show own_Fin _ _ _ _ _ _ _ (T25.setTop (mkF m 180 #[.val (.int va), .val (.int vb), .val (.int vc), .val (.int vd), .val (.int ve), .val (.int vf), .val (.ref b1), .val (.int oA), .val (.int nA), .val (.int oB), .val (.int nB), .val (.int oC), .val (.int nC), .val (.int (0 : Int32)), .val (.int (1 : Int32)), .val (.int (0 : Int32)), .unset, .unset] [(.ref b25)]))
          refine own_Fin.go (fun t k => XS.dup X25.here hx rfl (hb hby at_180) rfl rfl k) ?_
          show own_Fin _ _ _ _ _ _ _ (T25.setTop (mkF m 181 #[.val (.int va), .val (.int vb), .val (.int vc), .val (.int vd), .val (.int ve), .val (.int vf), .val (.ref b1), .val (.int oA), .val (.int nA), .val (.int oB), .val (.int nB), .val (.int oC), .val (.int nC), .val (.int (0 : Int32)), .val (.int (1 : Int32)), .val (.int (0 : Int32)), .unset, .unset] [(.ref b25), (.ref b25)]))
          obtain ⟨_, _, ⟨T26, L26, k26, n26⟩, -, X26, ⟨Lc26, hQ26, l26, y26, z26⟩, st26⟩ := X25.specialBack hx (y := (⟨"com/example/wardkeeper/wardkeeper/hl7/Lines", "<init>", "()V"⟩ : MethodName)) rfl hown (mvT hZ (hw _ (List.mem_of_getElem? (i := 4) rfl))) (mvT hZ (hw _ (List.mem_of_getElem? (i := 5) rfl))) (mvT hZ (hw _ (List.mem_of_getElem? (i := 6) rfl))) (by decide) (backOf (W := 1) (own_rm_ini l Z a0 hw [] b25  h25 n0 Z25 A25 F_b25_bytes F_b25_ends F_b25_count g_b25) hZ (hw _ (List.mem_of_getElem? (i := 6) rfl)) (hw _ (List.mem_of_getElem? (i := 3) rfl)) (by decide) (by decide)) (g := (mkF m 181 #[.val (.int va), .val (.int vb), .val (.int vc), .val (.int vd), .val (.int ve), .val (.int vf), .val (.ref b1), .val (.int oA), .val (.int nA), .val (.int oB), .val (.int nB), .val (.int oC), .val (.int nC), .val (.int (0 : Int32)), .val (.int (1 : Int32)), .val (.int (0 : Int32)), .unset, .unset] [(.ref b25), (.ref b25)])) rfl (by rw [hml]; rfl) (Steps.refl _) (a := b25) (argsL := []) (rest := [(.ref b25)]) (lenOf own_pd3 rfl) rfl (by show 2 * 0 + _ ≤ _; exact Nat.le_of_eq rfl) (hb hby at_181) (fun _ _ => ⟨rfl, e25, (by decide : 2 + 2 ≤ _), (by decide : 11 + 1040 ≤ _)⟩)
          dsimp only [Pt.U, Pt.locs, Pt.cells, Pt.slots] at X26 l26 y26 z26 st26 hQ26
          subst l26 y26 z26
          obtain ⟨ob26, oe26, kb26, ke26, rfl, N26q, K26q, c26_1, c26_2, c26_3, c26_4, c26_5, c26_6, c26_7, c26_8, c26_9, c26_10, c26_11⟩ := hQ26
          refine own_Fin.go (fun t k => st26.trans k) ?_
          have N26 := Fr.app N9 N26q
          have VS_26 := VS_25.keep K26q (ninS ne_b1_b25 nin0)
          have Z26 := Nat.le_trans Z25 K26q.1
          have ne_b1_ob26 : b1 ≠ ob26 := Nat.ne_of_lt (Nat.lt_of_lt_of_le VS_25.lt c26_7)
          have ne_b25_ob26 : b25 ≠ ob26 := Nat.ne_of_lt (Nat.lt_of_lt_of_le F_b25_count.lt c26_7)
          have g_ob26 : n0 ≤ ob26 := Nat.le_trans Z25 c26_7
          have ne_b1_oe26 : b1 ≠ oe26 := Nat.ne_of_lt (Nat.lt_of_lt_of_le VS_25.lt c26_8)
          have ne_b25_oe26 : b25 ≠ oe26 := Nat.ne_of_lt (Nat.lt_of_lt_of_le F_b25_count.lt c26_8)
          have g_oe26 : n0 ≤ oe26 := Nat.le_trans Z25 c26_8
          show own_Fin _ _ _ _ _ _ _ (T26.setTop (mkF m 184 #[.val (.int va), .val (.int vb), .val (.int vc), .val (.int vd), .val (.int ve), .val (.int vf), .val (.ref b1), .val (.int oA), .val (.int nA), .val (.int oB), .val (.int nB), .val (.int oC), .val (.int nC), .val (.int (0 : Int32)), .val (.int (1 : Int32)), .val (.int (0 : Int32)), .unset, .unset] [(.ref b25)]))
          refine own_Fin.go (fun t k => XS.astore X26.here hx rfl (hb hby at_184) rfl rfl (l' := #[.val (.int va), .val (.int vb), .val (.int vc), .val (.int vd), .val (.int ve), .val (.int vf), .val (.ref b1), .val (.int oA), .val (.int nA), .val (.int oB), .val (.int nB), .val (.int oC), .val (.int nC), .val (.int (0 : Int32)), .val (.int (1 : Int32)), .val (.int (0 : Int32)), .val (.ref b25), .unset]) rfl k) ?_
          show own_Fin _ _ _ _ _ _ _ (T26.setTop (mkF m 186 #[.val (.int va), .val (.int vb), .val (.int vc), .val (.int vd), .val (.int ve), .val (.int vf), .val (.ref b1), .val (.int oA), .val (.int nA), .val (.int oB), .val (.int nB), .val (.int oC), .val (.int nC), .val (.int (0 : Int32)), .val (.int (1 : Int32)), .val (.int (0 : Int32)), .val (.ref b25), .unset] []))
          refine own_Fin.go (fun t k => XS.iload X26.here hx rfl (hb hby at_186) rfl k) ?_
          show own_Fin _ _ _ _ _ _ _ (T26.setTop (mkF m 188 #[.val (.int va), .val (.int vb), .val (.int vc), .val (.int vd), .val (.int ve), .val (.int vf), .val (.ref b1), .val (.int oA), .val (.int nA), .val (.int oB), .val (.int nB), .val (.int oC), .val (.int nC), .val (.int (0 : Int32)), .val (.int (1 : Int32)), .val (.int (0 : Int32)), .val (.ref b25), .unset] [(.int (0 : Int32))]))
          refine own_Fin.go (fun t k => XS.ifYes X26.here hx rfl (pc0 := 188) (pc' := 202) rfl (hb hby at_188) rfl (by decide) (by decide) (by decide) k) ?_
          show own_Fin _ _ _ _ _ _ _ (T26.setTop (mkF m 202 #[.val (.int va), .val (.int vb), .val (.int vc), .val (.int vd), .val (.int ve), .val (.int vf), .val (.ref b1), .val (.int oA), .val (.int nA), .val (.int oB), .val (.int nB), .val (.int oC), .val (.int nC), .val (.int (0 : Int32)), .val (.int (1 : Int32)), .val (.int (0 : Int32)), .val (.ref b25), .unset] []))
          refine own_Fin.go (fun t k => XS.iload X26.here hx rfl (hb hby at_202) rfl k) ?_
          show own_Fin _ _ _ _ _ _ _ (T26.setTop (mkF m 204 #[.val (.int va), .val (.int vb), .val (.int vc), .val (.int vd), .val (.int ve), .val (.int vf), .val (.ref b1), .val (.int oA), .val (.int nA), .val (.int oB), .val (.int nB), .val (.int oC), .val (.int nC), .val (.int (0 : Int32)), .val (.int (1 : Int32)), .val (.int (0 : Int32)), .val (.ref b25), .unset] [(.int (1 : Int32))]))
          refine own_Fin.go (fun t k => XS.ifNo X26.here hx rfl (hb hby at_204) rfl (by decide) k) ?_
          show own_Fin _ _ _ _ _ _ _ (T26.setTop (mkF m 207 #[.val (.int va), .val (.int vb), .val (.int vc), .val (.int vd), .val (.int ve), .val (.int vf), .val (.ref b1), .val (.int oA), .val (.int nA), .val (.int oB), .val (.int nB), .val (.int oC), .val (.int nC), .val (.int (0 : Int32)), .val (.int (1 : Int32)), .val (.int (0 : Int32)), .val (.ref b25), .unset] []))
          refine own_Fin.go (fun t k => XS.aload X26.here hx rfl (hb hby at_207) rfl rfl k) ?_
          show own_Fin _ _ _ _ _ _ _ (T26.setTop (mkF m 209 #[.val (.int va), .val (.int vb), .val (.int vc), .val (.int vd), .val (.int ve), .val (.int vf), .val (.ref b1), .val (.int oA), .val (.int nA), .val (.int oB), .val (.int nB), .val (.int oC), .val (.int nC), .val (.int (0 : Int32)), .val (.int (1 : Int32)), .val (.int (0 : Int32)), .val (.ref b25), .unset] [(.ref b25)]))
          obtain ⟨cq27, kq27, q27a, q27b, q27c⟩ := isOf hZ rfl c26_1
          obtain ⟨_, _, ⟨T27, L27, k27, n27⟩, -, X27, ⟨Lc27, hQ27, l27, y27, z27⟩, st27⟩ := X26.virtualBack hx (y := (⟨"com/example/wardkeeper/wardkeeper/hl7/Lines", "clear", "()V"⟩ : MethodName)) (z := (⟨"com/example/wardkeeper/wardkeeper/hl7/Lines", "clear", "()V"⟩ : MethodName)) hown (mvT hZ (hw _ (List.mem_of_getElem? (i := 15) rfl))) (mvT hZ (hw _ (List.mem_of_getElem? (i := 16) rfl))) (notFace_of_selects (args := #[]) (mvT hZ (hw _ (List.mem_of_getElem? (i := 18) rfl)))) (mvT hZ (hw _ (List.mem_of_getElem? (i := 18) rfl))) (mvT hZ (hw _ (List.mem_of_getElem? (i := 17) rfl))) (by decide) (backOf (W := 0) (own_rm_clr l Z a0 hw [] b25 ob26 oe26 (0 : Int32) T26.heap n0 Z26 c26_1 c26_2 c26_3 c26_4 g_b25) hZ (hw _ (List.mem_of_getElem? (i := 19) rfl)) (hw _ (List.mem_of_getElem? (i := 3) rfl)) (by decide) (by decide)) q27a q27c (g := (mkF m 209 #[.val (.int va), .val (.int vb), .val (.int vc), .val (.int vd), .val (.int ve), .val (.int vf), .val (.ref b1), .val (.int oA), .val (.int nA), .val (.int oB), .val (.int nB), .val (.int oC), .val (.int nC), .val (.int (0 : Int32)), .val (.int (1 : Int32)), .val (.int (0 : Int32)), .val (.ref b25), .unset] [(.ref b25)])) rfl (by rw [hml]; rfl) (Steps.refl _) (argsL := []) (rest := []) (lenOf own_pd3 rfl) rfl (by show 2 * 0 + _ ≤ _; exact Nat.le_of_eq rfl) (hb hby at_209) (fun _ _ => ⟨rfl, rfl, (by decide : 4 + 0 ≤ _), (by decide : 1051 + 0 ≤ _)⟩)
          dsimp only [Pt.U, Pt.locs, Pt.cells, Pt.slots] at X27 l27 y27 z27 st27 hQ27
          subst l27 y27 z27
          obtain ⟨rfl, N27q, K27q, c27_1, c27_2, c27_3, c27_4⟩ := hQ27
          refine own_Fin.go (fun t k => st27.trans k) ?_
          have N27 := Fr.app N26 N27q
          have VS_27 := VS_26.keep K27q (ninS ne_b1_b25 nin0)
          have V_ob26_27 := c26_5.keep K27q (ninS (Ne.symm c26_9) nin0)
          have V_oe26_27 := c26_6.keep K27q (ninS (Ne.symm c26_10) nin0)
          have Z27 := Nat.le_trans Z26 K27q.1
          show own_Fin _ _ _ _ _ _ _ (T27.setTop (mkF m 212 #[.val (.int va), .val (.int vb), .val (.int vc), .val (.int vd), .val (.int ve), .val (.int vf), .val (.ref b1), .val (.int oA), .val (.int nA), .val (.int oB), .val (.int nB), .val (.int oC), .val (.int nC), .val (.int (0 : Int32)), .val (.int (1 : Int32)), .val (.int (0 : Int32)), .val (.ref b25), .unset] []))
          refine own_Fin.go (fun t k => XS.aload X27.here hx rfl (hb hby at_212) rfl rfl k) ?_
          show own_Fin _ _ _ _ _ _ _ (T27.setTop (mkF m 214 #[.val (.int va), .val (.int vb), .val (.int vc), .val (.int vd), .val (.int ve), .val (.int vf), .val (.ref b1), .val (.int oA), .val (.int nA), .val (.int oB), .val (.int nB), .val (.int oC), .val (.int nC), .val (.int (0 : Int32)), .val (.int (1 : Int32)), .val (.int (0 : Int32)), .val (.ref b25), .unset] [(.ref b25)]))
          refine own_Fin.go (fun t k => XS.aload X27.here hx rfl (hb hby at_214) rfl rfl k) ?_
          show own_Fin _ _ _ _ _ _ _ (T27.setTop (mkF m 216 #[.val (.int va), .val (.int vb), .val (.int vc), .val (.int vd), .val (.int ve), .val (.int vf), .val (.ref b1), .val (.int oA), .val (.int nA), .val (.int oB), .val (.int nB), .val (.int oC), .val (.int nC), .val (.int (0 : Int32)), .val (.int (1 : Int32)), .val (.int (0 : Int32)), .val (.ref b25), .unset] [(.ref b1), (.ref b25)]))
          refine own_Fin.go (fun t k => XS.iload X27.here hx rfl (hb hby at_216) rfl k) ?_
          show own_Fin _ _ _ _ _ _ _ (T27.setTop (mkF m 218 #[.val (.int va), .val (.int vb), .val (.int vc), .val (.int vd), .val (.int ve), .val (.int vf), .val (.ref b1), .val (.int oA), .val (.int nA), .val (.int oB), .val (.int nB), .val (.int oC), .val (.int nC), .val (.int (0 : Int32)), .val (.int (1 : Int32)), .val (.int (0 : Int32)), .val (.ref b25), .unset] [(.int oB), (.ref b1), (.ref b25)]))
          refine own_Fin.go (fun t k => XS.iload X27.here hx rfl (hb hby at_218) rfl k) ?_
          show own_Fin _ _ _ _ _ _ _ (T27.setTop (mkF m 220 #[.val (.int va), .val (.int vb), .val (.int vc), .val (.int vd), .val (.int ve), .val (.int vf), .val (.ref b1), .val (.int oA), .val (.int nA), .val (.int oB), .val (.int nB), .val (.int oC), .val (.int nC), .val (.int (0 : Int32)), .val (.int (1 : Int32)), .val (.int (0 : Int32)), .val (.ref b25), .unset] [(.int nB), (.int oB), (.ref b1), (.ref b25)]))
          obtain ⟨cq28, kq28, q28a, q28b, q28c⟩ := isOf hZ rfl c27_1
          obtain ⟨_, _, ⟨T28, L28, k28, n28⟩, -, X28, ⟨Lc28, hQ28, l28, y28, z28⟩, st28⟩ := X27.virtualBack hx (y := (⟨"com/example/wardkeeper/wardkeeper/hl7/Lines", "add", "([BII)V"⟩ : MethodName)) (z := (⟨"com/example/wardkeeper/wardkeeper/hl7/Lines", "add", "([BII)V"⟩ : MethodName)) hown (mvT hZ (hw _ (List.mem_of_getElem? (i := 22) rfl))) (mvT hZ (hw _ (List.mem_of_getElem? (i := 23) rfl))) (notFace_of_selects (args := #[]) (mvT hZ (hw _ (List.mem_of_getElem? (i := 25) rfl)))) (mvT hZ (hw _ (List.mem_of_getElem? (i := 25) rfl))) (mvT hZ (hw _ (List.mem_of_getElem? (i := 24) rfl))) (by decide) (backOf (W := 0) (own_rm_add0 l Z a0 hw [] b25 b1 oB nB ob26 kb26 k1 (List.replicate 1024 (0 : Int32)) LS oe26 ke26 (0 : Int32) (0 : Int32) (0 : Int32) T27.heap n0 Z27 c27_1 c27_2 c27_3 c27_4 V_ob26_27 V_oe26_27 VS_27 g_b25 g_ob26 g_oe26 c26_9 c26_10 c26_11 ne_b1_b25 ne_b1_ob26 ne_b1_oe26 hJ138.2.1 (⟨by decide, by decide⟩ : own_ok 100 0) (by rw [List.length_replicate])) hZ (hw _ (List.mem_of_getElem? (i := 26) rfl)) (hw _ (List.mem_of_getElem? (i := 3) rfl)) (by decide) (by decide)) q28a q28c (g := (mkF m 220 #[.val (.int va), .val (.int vb), .val (.int vc), .val (.int vd), .val (.int ve), .val (.int vf), .val (.ref b1), .val (.int oA), .val (.int nA), .val (.int oB), .val (.int nB), .val (.int oC), .val (.int nC), .val (.int (0 : Int32)), .val (.int (1 : Int32)), .val (.int (0 : Int32)), .val (.ref b25), .unset] [(.int nB), (.int oB), (.ref b1), (.ref b25)])) rfl (by rw [hml]; rfl) (Steps.refl _) (argsL := [(.ref b1), (.int oB), (.int nB)]) (rest := []) (lenOf own_pd4 rfl) rfl (by show 2 * 0 + _ ≤ _; exact Nat.le_of_eq rfl) (hb hby at_220) (fun _ _ => ⟨rfl, rfl, (by decide : 4 + 0 ≤ _), (by decide : 1051 + 0 ≤ _)⟩)
          dsimp only [Pt.U, Pt.locs, Pt.cells, Pt.slots] at X28 l28 y28 z28 st28 hQ28
          subst l28 y28 z28
          obtain ⟨rfl, N28q, K28q, c28_1, c28_2, c28_3, c28_4, c28_5, c28_6⟩ := hQ28
          refine own_Fin.go (fun t k => st28.trans k) ?_
          have N28 := Fr.app N27 N28q
          have VS_28 := VS_27.keep K28q (ninS ne_b1_b25 (ninS ne_b1_ob26 (ninS ne_b1_oe26 nin0)))
          have Z28 := Nat.le_trans Z27 K28q.1
          have hO28 := own_next (⟨by decide, by decide⟩ : own_ok 0 0) (by decide) hJ138.2.1
          have hT28 := own_cpTake (LB := (List.replicate 1024 (0 : Int32))) (LS := LS) (S := (0 : Int32)) (o := oB) (n := nB) (by rw [List.length_replicate]) (own_up (⟨by decide, by decide⟩ : own_ok 0 0) (by decide)) hJ138.2.1
          rw [← hO28.2] at hT28
          have hL28 := own_cpLen (LB := (List.replicate 1024 (0 : Int32))) (LS := LS) (S := (0 : Int32)) (o := oB) (n := nB) (by rw [List.length_replicate]) (own_up (⟨by decide, by decide⟩ : own_ok 0 0) (by decide)) hJ138.2.1
          show own_Fin _ _ _ _ _ _ _ (T28.setTop (mkF m 223 #[.val (.int va), .val (.int vb), .val (.int vc), .val (.int vd), .val (.int ve), .val (.int vf), .val (.ref b1), .val (.int oA), .val (.int nA), .val (.int oB), .val (.int nB), .val (.int oC), .val (.int nC), .val (.int (0 : Int32)), .val (.int (1 : Int32)), .val (.int (0 : Int32)), .val (.ref b25), .unset] []))
          refine own_Fin.go (fun t k => XS.iload X28.here hx rfl (hb hby at_223) rfl k) ?_
          show own_Fin _ _ _ _ _ _ _ (T28.setTop (mkF m 225 #[.val (.int va), .val (.int vb), .val (.int vc), .val (.int vd), .val (.int ve), .val (.int vf), .val (.ref b1), .val (.int oA), .val (.int nA), .val (.int oB), .val (.int nB), .val (.int oC), .val (.int nC), .val (.int (0 : Int32)), .val (.int (1 : Int32)), .val (.int (0 : Int32)), .val (.ref b25), .unset] [(.int (0 : Int32))]))
          refine own_Fin.go (fun t k => XS.ifYes X28.here hx rfl (pc0 := 225) (pc' := 239) rfl (hb hby at_225) rfl (by decide) (by decide) (by decide) k) ?_
          show own_Fin _ _ _ _ _ _ _ (T28.setTop (mkF m 239 #[.val (.int va), .val (.int vb), .val (.int vc), .val (.int vd), .val (.int ve), .val (.int vf), .val (.ref b1), .val (.int oA), .val (.int nA), .val (.int oB), .val (.int nB), .val (.int oC), .val (.int nC), .val (.int (0 : Int32)), .val (.int (1 : Int32)), .val (.int (0 : Int32)), .val (.ref b25), .unset] []))
          refine own_Fin.go (fun t k => XS.iload X28.here hx rfl (hb hby at_239) rfl k) ?_
          show own_Fin _ _ _ _ _ _ _ (T28.setTop (mkF m 241 #[.val (.int va), .val (.int vb), .val (.int vc), .val (.int vd), .val (.int ve), .val (.int vf), .val (.ref b1), .val (.int oA), .val (.int nA), .val (.int oB), .val (.int nB), .val (.int oC), .val (.int nC), .val (.int (0 : Int32)), .val (.int (1 : Int32)), .val (.int (0 : Int32)), .val (.ref b25), .unset] [(.int (0 : Int32))]))
          refine own_Fin.go (fun t k => XS.ifYes X28.here hx rfl (pc0 := 241) (pc' := 261) rfl (hb hby at_241) rfl (by decide) (by decide) (by decide) k) ?_
          show own_Fin _ _ _ _ _ _ _ (T28.setTop (mkF m 261 #[.val (.int va), .val (.int vb), .val (.int vc), .val (.int vd), .val (.int ve), .val (.int vf), .val (.ref b1), .val (.int oA), .val (.int nA), .val (.int oB), .val (.int nB), .val (.int oC), .val (.int nC), .val (.int (0 : Int32)), .val (.int (1 : Int32)), .val (.int (0 : Int32)), .val (.ref b25), .unset] []))
          refine own_Fin.go (fun t k => XS.aload X28.here hx rfl (hb hby at_261) rfl rfl k) ?_
          show own_Fin _ _ _ _ _ _ _ (T28.setTop (mkF m 263 #[.val (.int va), .val (.int vb), .val (.int vc), .val (.int vd), .val (.int ve), .val (.int vf), .val (.ref b1), .val (.int oA), .val (.int nA), .val (.int oB), .val (.int nB), .val (.int oC), .val (.int nC), .val (.int (0 : Int32)), .val (.int (1 : Int32)), .val (.int (0 : Int32)), .val (.ref b25), .unset] [(.ref b1)]))
          refine own_Fin.go (fun t k => XS.iload X28.here hx rfl (hb hby at_263) rfl k) ?_
          show own_Fin _ _ _ _ _ _ _ (T28.setTop (mkF m 265 #[.val (.int va), .val (.int vb), .val (.int vc), .val (.int vd), .val (.int ve), .val (.int vf), .val (.ref b1), .val (.int oA), .val (.int nA), .val (.int oB), .val (.int nB), .val (.int oC), .val (.int nC), .val (.int (0 : Int32)), .val (.int (1 : Int32)), .val (.int (0 : Int32)), .val (.ref b25), .unset] [(.int oB), (.ref b1)]))
          refine own_Fin.go (fun t k => XS.iload X28.here hx rfl (hb hby at_265) rfl k) ?_
          show own_Fin _ _ _ _ _ _ _ (T28.setTop (mkF m 267 #[.val (.int va), .val (.int vb), .val (.int vc), .val (.int vd), .val (.int ve), .val (.int vf), .val (.ref b1), .val (.int oA), .val (.int nA), .val (.int oB), .val (.int nB), .val (.int oC), .val (.int nC), .val (.int (0 : Int32)), .val (.int (1 : Int32)), .val (.int (0 : Int32)), .val (.ref b25), .unset] [(.int nB), (.int oB), (.ref b1)]))
          obtain ⟨_, _, ⟨T29, L29, k29, n29⟩, -, X29, ⟨Lc29, hQ29, l29, y29, z29⟩, st29⟩ := Jvm.LawKit.callS X28 hx (y := (⟨"com/example/wardkeeper/wardkeeper/hl7/LinesAllAsciiPinLaw", "bad", "([BII)Z"⟩ : MethodName)) hown (mvT hZ (hw _ (List.mem_of_getElem? (i := 35) rfl))) (mvT hZ (hw _ (List.mem_of_getElem? (i := 36) rfl))) (mvT hZ (hw _ (List.mem_of_getElem? (i := 37) rfl))) (mvT hZ (hw _ (List.mem_of_getElem? (i := 38) rfl))) (by decide) (backOf (W := 0) (own_rm_bad l Z a0 hw [] b1 oB nB k1 LS T28.heap n0 Z28 VS_28) hZ (hw _ (List.mem_of_getElem? (i := 38) rfl)) (hw _ (List.mem_of_getElem? (i := 37) rfl)) (by decide) (by decide)) (g := (mkF m 267 #[.val (.int va), .val (.int vb), .val (.int vc), .val (.int vd), .val (.int ve), .val (.int vf), .val (.ref b1), .val (.int oA), .val (.int nA), .val (.int oB), .val (.int nB), .val (.int oC), .val (.int nC), .val (.int (0 : Int32)), .val (.int (1 : Int32)), .val (.int (0 : Int32)), .val (.ref b25), .unset] [(.int nB), (.int oB), (.ref b1)])) rfl (by rw [hml]; rfl) (argsL := [(.ref b1), (.int oB), (.int nB)]) (rest := []) (lenOf own_pd5 rfl) rfl (by show 2 * 0 + _ ≤ _; exact Nat.le_of_eq rfl) (hb hby at_267) (fun _ _ => ⟨rfl, rfl, (by decide : 4 + 0 ≤ _), (by decide : 1051 + 0 ≤ _)⟩)
          dsimp only [Pt.U, Pt.locs, Pt.cells, Pt.slots] at X29 l29 y29 z29 st29 hQ29
          subst l29 y29 z29
          obtain ⟨rfl, N29q, e29⟩ := hQ29
          refine own_Fin.go (fun t k => st29 t k) ?_
          have N29 := Fr.app N28 N29q
          show own_Fin _ _ _ _ _ _ _ (T29.setTop (mkF m 270 #[.val (.int va), .val (.int vb), .val (.int vc), .val (.int vd), .val (.int ve), .val (.int vf), .val (.ref b1), .val (.int oA), .val (.int nA), .val (.int oB), .val (.int nB), .val (.int oC), .val (.int nC), .val (.int (0 : Int32)), .val (.int (1 : Int32)), .val (.int (0 : Int32)), .val (.ref b25), .unset] [(.int (own_bad LS oB nB))]))
          by_cases hc270 : (own_bad LS oB nB) = (0 : Int32)
          · refine own_Fin.go (fun t k => XS.ifNo X29.here hx rfl (hb hby at_270) rfl (Jvm.Free.XT.i0_ne_f hc270) k) ?_
            show own_Fin _ _ _ _ _ _ _ (T29.setTop (mkF m 273 #[.val (.int va), .val (.int vb), .val (.int vc), .val (.int vd), .val (.int ve), .val (.int vf), .val (.ref b1), .val (.int oA), .val (.int nA), .val (.int oB), .val (.int nB), .val (.int oC), .val (.int nC), .val (.int (0 : Int32)), .val (.int (1 : Int32)), .val (.int (0 : Int32)), .val (.ref b25), .unset] []))
            refine own_Fin.go (fun t k => XS.iload X29.here hx rfl (hb hby at_273) rfl k) ?_
            show own_Fin _ _ _ _ _ _ _ (T29.setTop (mkF m 275 #[.val (.int va), .val (.int vb), .val (.int vc), .val (.int vd), .val (.int ve), .val (.int vf), .val (.ref b1), .val (.int oA), .val (.int nA), .val (.int oB), .val (.int nB), .val (.int oC), .val (.int nC), .val (.int (0 : Int32)), .val (.int (1 : Int32)), .val (.int (0 : Int32)), .val (.ref b25), .unset] [(.int (0 : Int32))]))
            refine own_Fin.go (fun t k => XS.ifYes X29.here hx rfl (pc0 := 275) (pc' := 290) rfl (hb hby at_275) rfl (by decide) (by decide) (by decide) k) ?_
            show own_Fin _ _ _ _ _ _ _ (T29.setTop (mkF m 290 #[.val (.int va), .val (.int vb), .val (.int vc), .val (.int vd), .val (.int ve), .val (.int vf), .val (.ref b1), .val (.int oA), .val (.int nA), .val (.int oB), .val (.int nB), .val (.int oC), .val (.int nC), .val (.int (0 : Int32)), .val (.int (1 : Int32)), .val (.int (0 : Int32)), .val (.ref b25), .unset] []))
            refine own_Fin.go (fun t k => XS.iconst X29.here hx rfl (hb hby at_290) k) ?_
            show own_Fin _ _ _ _ _ _ _ (T29.setTop (mkF m 291 #[.val (.int va), .val (.int vb), .val (.int vc), .val (.int vd), .val (.int ve), .val (.int vf), .val (.ref b1), .val (.int oA), .val (.int nA), .val (.int oB), .val (.int nB), .val (.int oC), .val (.int nC), .val (.int (0 : Int32)), .val (.int (1 : Int32)), .val (.int (0 : Int32)), .val (.ref b25), .unset] [(.int (1 : Int32))]))
            refine own_Fin.go (fun t k => XS.goto X29.here hx rfl (pc0 := 291) (pc' := 295) rfl (hb hby at_291) (by decide) (by decide) k) ?_
            show own_Fin _ _ _ _ _ _ _ (T29.setTop (mkF m 295 #[.val (.int va), .val (.int vb), .val (.int vc), .val (.int vd), .val (.int ve), .val (.int vf), .val (.ref b1), .val (.int oA), .val (.int nA), .val (.int oB), .val (.int nB), .val (.int oC), .val (.int nC), .val (.int (0 : Int32)), .val (.int (1 : Int32)), .val (.int (0 : Int32)), .val (.ref b25), .unset] [(.int (1 : Int32))]))
            refine own_Fin.go (fun t k => XS.istore X29.here hx rfl (hb hby at_295) rfl (l' := #[.val (.int va), .val (.int vb), .val (.int vc), .val (.int vd), .val (.int ve), .val (.int vf), .val (.ref b1), .val (.int oA), .val (.int nA), .val (.int oB), .val (.int nB), .val (.int oC), .val (.int nC), .val (.int (0 : Int32)), .val (.int (1 : Int32)), .val (.int (0 : Int32)), .val (.ref b25), .val (.int (1 : Int32))]) rfl k) ?_
            show own_Fin _ _ _ _ _ _ _ (T29.setTop (mkF m 297 #[.val (.int va), .val (.int vb), .val (.int vc), .val (.int vd), .val (.int ve), .val (.int vf), .val (.ref b1), .val (.int oA), .val (.int nA), .val (.int oB), .val (.int nB), .val (.int oC), .val (.int nC), .val (.int (0 : Int32)), .val (.int (1 : Int32)), .val (.int (0 : Int32)), .val (.ref b25), .val (.int (1 : Int32))] []))
            refine own_Fin.go (fun t k => XS.aload X29.here hx rfl (hb hby at_297) rfl rfl k) ?_
            show own_Fin _ _ _ _ _ _ _ (T29.setTop (mkF m 299 #[.val (.int va), .val (.int vb), .val (.int vc), .val (.int vd), .val (.int ve), .val (.int vf), .val (.ref b1), .val (.int oA), .val (.int nA), .val (.int oB), .val (.int nB), .val (.int oC), .val (.int nC), .val (.int (0 : Int32)), .val (.int (1 : Int32)), .val (.int (0 : Int32)), .val (.ref b25), .val (.int (1 : Int32))] [(.ref b25)]))
            obtain ⟨cq30, kq30, q30a, q30b, q30c⟩ := isOf hZ e29 c28_1
            obtain ⟨_, _, ⟨T30, L30, k30, n30⟩, -, X30, ⟨Lc30, hQ30, l30, y30, z30⟩, st30⟩ := X29.virtualBack hx (y := (⟨"com/example/wardkeeper/wardkeeper/hl7/Lines", "allAscii", "()Z"⟩ : MethodName)) (z := (⟨"com/example/wardkeeper/wardkeeper/hl7/Lines", "allAscii", "()Z"⟩ : MethodName)) hown (mvT hZ (hw _ (List.mem_of_getElem? (i := 42) rfl))) (mvT hZ (hw _ (List.mem_of_getElem? (i := 43) rfl))) (notFace_of_selects (args := #[]) (mvT hZ (hw _ (List.mem_of_getElem? (i := 45) rfl)))) (mvT hZ (hw _ (List.mem_of_getElem? (i := 45) rfl))) (mvT hZ (hw _ (List.mem_of_getElem? (i := 44) rfl))) (by decide) (backOf (W := 0) (own_rm_aa1 l Z a0 hw [] b25 ob26 kb26 (own_cp (List.replicate 1024 (0 : Int32)) LS (0 : Int32) oB nB) oe26 ke26 ((0 : Int32) + nB) (0 : Int32) (0 : Int32) T28.heap n0 Z28 c28_1 c28_2 c28_3 c28_4 c28_5 c28_6 (own_up hO28.1 (by decide)) hL28) hZ (hw _ (List.mem_of_getElem? (i := 46) rfl)) (hw _ (List.mem_of_getElem? (i := 3) rfl)) (by decide) (by decide)) q30a q30c (g := (mkF m 299 #[.val (.int va), .val (.int vb), .val (.int vc), .val (.int vd), .val (.int ve), .val (.int vf), .val (.ref b1), .val (.int oA), .val (.int nA), .val (.int oB), .val (.int nB), .val (.int oC), .val (.int nC), .val (.int (0 : Int32)), .val (.int (1 : Int32)), .val (.int (0 : Int32)), .val (.ref b25), .val (.int (1 : Int32))] [(.ref b25)])) rfl (by rw [hml]; rfl) (Steps.refl _) (argsL := []) (rest := []) (lenOf own_pd6 rfl) rfl (by show 2 * 0 + _ ≤ _; exact Nat.le_of_eq rfl) (hb hby at_299) (fun _ _ => ⟨rfl, e29, (by decide : 4 + 0 ≤ _), (by decide : 1051 + 0 ≤ _)⟩)
            dsimp only [Pt.U, Pt.locs, Pt.cells, Pt.slots] at X30 l30 y30 z30 st30 hQ30
            subst l30 y30 z30
            obtain ⟨rfl, N30q, e30⟩ := hQ30
            refine own_Fin.go (fun t k => st30.trans k) ?_
            have N30 := Fr.app N29 N30q
            show own_Fin _ _ _ _ _ _ _ (T30.setTop (mkF m 302 #[.val (.int va), .val (.int vb), .val (.int vc), .val (.int vd), .val (.int ve), .val (.int vf), .val (.ref b1), .val (.int oA), .val (.int nA), .val (.int oB), .val (.int nB), .val (.int oC), .val (.int nC), .val (.int (0 : Int32)), .val (.int (1 : Int32)), .val (.int (0 : Int32)), .val (.ref b25), .val (.int (1 : Int32))] [(.int (own_all (own_cp (List.replicate 1024 (0 : Int32)) LS (0 : Int32) oB nB) ((0 : Int32) + nB)))]))
            refine own_Fin.go (fun t k => XS.iload X30.here hx rfl (hb hby at_302) rfl k) ?_
            show own_Fin _ _ _ _ _ _ _ (T30.setTop (mkF m 304 #[.val (.int va), .val (.int vb), .val (.int vc), .val (.int vd), .val (.int ve), .val (.int vf), .val (.ref b1), .val (.int oA), .val (.int nA), .val (.int oB), .val (.int nB), .val (.int oC), .val (.int nC), .val (.int (0 : Int32)), .val (.int (1 : Int32)), .val (.int (0 : Int32)), .val (.ref b25), .val (.int (1 : Int32))] [(.int (1 : Int32)), (.int (own_all (own_cp (List.replicate 1024 (0 : Int32)) LS (0 : Int32) oB nB) ((0 : Int32) + nB)))]))
            have hc304 : (own_all (own_cp (List.replicate 1024 (0 : Int32)) LS (0 : Int32) oB nB) ((0 : Int32) + nB)) = (1 : Int32) := own_all1 hT28 (own_app own_nil (own_good hJ138.2.1 hc270))
            refine own_Fin.go (fun t k => XS.icmpNo X30.here hx rfl (hb hby at_304) rfl (Jvm.Free.XT.ii_ne_f hc304) k) ?_
            show own_Fin _ _ _ _ _ _ _ (T30.setTop (mkF m 307 #[.val (.int va), .val (.int vb), .val (.int vc), .val (.int vd), .val (.int ve), .val (.int vf), .val (.ref b1), .val (.int oA), .val (.int nA), .val (.int oB), .val (.int nB), .val (.int oC), .val (.int nC), .val (.int (0 : Int32)), .val (.int (1 : Int32)), .val (.int (0 : Int32)), .val (.ref b25), .val (.int (1 : Int32))] []))
            refine own_Fin.go (fun t k => XS.iconst X30.here hx rfl (hb hby at_307) k) ?_
            show own_Fin _ _ _ _ _ _ _ (T30.setTop (mkF m 308 #[.val (.int va), .val (.int vb), .val (.int vc), .val (.int vd), .val (.int ve), .val (.int vf), .val (.ref b1), .val (.int oA), .val (.int nA), .val (.int oB), .val (.int nB), .val (.int oC), .val (.int nC), .val (.int (0 : Int32)), .val (.int (1 : Int32)), .val (.int (0 : Int32)), .val (.ref b25), .val (.int (1 : Int32))] [(.int (1 : Int32))]))
            refine own_Fin.go (fun t k => XS.goto X30.here hx rfl (pc0 := 308) (pc' := 312) rfl (hb hby at_308) (by decide) (by decide) k) ?_
            show own_Fin _ _ _ _ _ _ _ (T30.setTop (mkF m 312 #[.val (.int va), .val (.int vb), .val (.int vc), .val (.int vd), .val (.int ve), .val (.int vf), .val (.ref b1), .val (.int oA), .val (.int nA), .val (.int oB), .val (.int nB), .val (.int oC), .val (.int nC), .val (.int (0 : Int32)), .val (.int (1 : Int32)), .val (.int (0 : Int32)), .val (.ref b25), .val (.int (1 : Int32))] [(.int (1 : Int32))]))
            refine own_retN X30 hx (t := .boolean) (w := (1 : Int32)) Bd.returns (by simp) (hb hby at_312) Bd.notSynchronized rfl (by decide) (by decide) ?_
            rw [e30]
            exact ⟨rfl, N30⟩
          · refine own_Fin.go (fun t k => XS.ifYes X29.here hx rfl (pc0 := 270) (pc' := 294) rfl (hb hby at_270) rfl (Jvm.Free.XT.i0_ne_t hc270) (by decide) (by decide) k) ?_
            show own_Fin _ _ _ _ _ _ _ (T29.setTop (mkF m 294 #[.val (.int va), .val (.int vb), .val (.int vc), .val (.int vd), .val (.int ve), .val (.int vf), .val (.ref b1), .val (.int oA), .val (.int nA), .val (.int oB), .val (.int nB), .val (.int oC), .val (.int nC), .val (.int (0 : Int32)), .val (.int (1 : Int32)), .val (.int (0 : Int32)), .val (.ref b25), .unset] []))
            refine own_Fin.go (fun t k => XS.iconst X29.here hx rfl (hb hby at_294) k) ?_
            show own_Fin _ _ _ _ _ _ _ (T29.setTop (mkF m 295 #[.val (.int va), .val (.int vb), .val (.int vc), .val (.int vd), .val (.int ve), .val (.int vf), .val (.ref b1), .val (.int oA), .val (.int nA), .val (.int oB), .val (.int nB), .val (.int oC), .val (.int nC), .val (.int (0 : Int32)), .val (.int (1 : Int32)), .val (.int (0 : Int32)), .val (.ref b25), .unset] [(.int (0 : Int32))]))
            refine own_Fin.go (fun t k => XS.istore X29.here hx rfl (hb hby at_295) rfl (l' := #[.val (.int va), .val (.int vb), .val (.int vc), .val (.int vd), .val (.int ve), .val (.int vf), .val (.ref b1), .val (.int oA), .val (.int nA), .val (.int oB), .val (.int nB), .val (.int oC), .val (.int nC), .val (.int (0 : Int32)), .val (.int (1 : Int32)), .val (.int (0 : Int32)), .val (.ref b25), .val (.int (0 : Int32))]) rfl k) ?_
            show own_Fin _ _ _ _ _ _ _ (T29.setTop (mkF m 297 #[.val (.int va), .val (.int vb), .val (.int vc), .val (.int vd), .val (.int ve), .val (.int vf), .val (.ref b1), .val (.int oA), .val (.int nA), .val (.int oB), .val (.int nB), .val (.int oC), .val (.int nC), .val (.int (0 : Int32)), .val (.int (1 : Int32)), .val (.int (0 : Int32)), .val (.ref b25), .val (.int (0 : Int32))] []))
            refine own_Fin.go (fun t k => XS.aload X29.here hx rfl (hb hby at_297) rfl rfl k) ?_
            show own_Fin _ _ _ _ _ _ _ (T29.setTop (mkF m 299 #[.val (.int va), .val (.int vb), .val (.int vc), .val (.int vd), .val (.int ve), .val (.int vf), .val (.ref b1), .val (.int oA), .val (.int nA), .val (.int oB), .val (.int nB), .val (.int oC), .val (.int nC), .val (.int (0 : Int32)), .val (.int (1 : Int32)), .val (.int (0 : Int32)), .val (.ref b25), .val (.int (0 : Int32))] [(.ref b25)]))
            obtain ⟨cq31, kq31, q31a, q31b, q31c⟩ := isOf hZ e29 c28_1
            obtain ⟨_, _, ⟨T31, L31, k31, n31⟩, -, X31, ⟨Lc31, hQ31, l31, y31, z31⟩, st31⟩ := X29.virtualBack hx (y := (⟨"com/example/wardkeeper/wardkeeper/hl7/Lines", "allAscii", "()Z"⟩ : MethodName)) (z := (⟨"com/example/wardkeeper/wardkeeper/hl7/Lines", "allAscii", "()Z"⟩ : MethodName)) hown (mvT hZ (hw _ (List.mem_of_getElem? (i := 42) rfl))) (mvT hZ (hw _ (List.mem_of_getElem? (i := 43) rfl))) (notFace_of_selects (args := #[]) (mvT hZ (hw _ (List.mem_of_getElem? (i := 45) rfl)))) (mvT hZ (hw _ (List.mem_of_getElem? (i := 45) rfl))) (mvT hZ (hw _ (List.mem_of_getElem? (i := 44) rfl))) (by decide) (backOf (W := 0) (own_rm_aa1 l Z a0 hw [] b25 ob26 kb26 (own_cp (List.replicate 1024 (0 : Int32)) LS (0 : Int32) oB nB) oe26 ke26 ((0 : Int32) + nB) (0 : Int32) (0 : Int32) T28.heap n0 Z28 c28_1 c28_2 c28_3 c28_4 c28_5 c28_6 (own_up hO28.1 (by decide)) hL28) hZ (hw _ (List.mem_of_getElem? (i := 46) rfl)) (hw _ (List.mem_of_getElem? (i := 3) rfl)) (by decide) (by decide)) q31a q31c (g := (mkF m 299 #[.val (.int va), .val (.int vb), .val (.int vc), .val (.int vd), .val (.int ve), .val (.int vf), .val (.ref b1), .val (.int oA), .val (.int nA), .val (.int oB), .val (.int nB), .val (.int oC), .val (.int nC), .val (.int (0 : Int32)), .val (.int (1 : Int32)), .val (.int (0 : Int32)), .val (.ref b25), .val (.int (0 : Int32))] [(.ref b25)])) rfl (by rw [hml]; rfl) (Steps.refl _) (argsL := []) (rest := []) (lenOf own_pd6 rfl) rfl (by show 2 * 0 + _ ≤ _; exact Nat.le_of_eq rfl) (hb hby at_299) (fun _ _ => ⟨rfl, e29, (by decide : 4 + 0 ≤ _), (by decide : 1051 + 0 ≤ _)⟩)
            dsimp only [Pt.U, Pt.locs, Pt.cells, Pt.slots] at X31 l31 y31 z31 st31 hQ31
            subst l31 y31 z31
            obtain ⟨rfl, N31q, e31⟩ := hQ31
            refine own_Fin.go (fun t k => st31.trans k) ?_
            have N31 := Fr.app N29 N31q
            show own_Fin _ _ _ _ _ _ _ (T31.setTop (mkF m 302 #[.val (.int va), .val (.int vb), .val (.int vc), .val (.int vd), .val (.int ve), .val (.int vf), .val (.ref b1), .val (.int oA), .val (.int nA), .val (.int oB), .val (.int nB), .val (.int oC), .val (.int nC), .val (.int (0 : Int32)), .val (.int (1 : Int32)), .val (.int (0 : Int32)), .val (.ref b25), .val (.int (0 : Int32))] [(.int (own_all (own_cp (List.replicate 1024 (0 : Int32)) LS (0 : Int32) oB nB) ((0 : Int32) + nB)))]))
            refine own_Fin.go (fun t k => XS.iload X31.here hx rfl (hb hby at_302) rfl k) ?_
            show own_Fin _ _ _ _ _ _ _ (T31.setTop (mkF m 304 #[.val (.int va), .val (.int vb), .val (.int vc), .val (.int vd), .val (.int ve), .val (.int vf), .val (.ref b1), .val (.int oA), .val (.int nA), .val (.int oB), .val (.int nB), .val (.int oC), .val (.int nC), .val (.int (0 : Int32)), .val (.int (1 : Int32)), .val (.int (0 : Int32)), .val (.ref b25), .val (.int (0 : Int32))] [(.int (0 : Int32)), (.int (own_all (own_cp (List.replicate 1024 (0 : Int32)) LS (0 : Int32) oB nB) ((0 : Int32) + nB)))]))
            have hc304 : (own_all (own_cp (List.replicate 1024 (0 : Int32)) LS (0 : Int32) oB nB) ((0 : Int32) + nB)) = (0 : Int32) := own_all0 hT28 (own_inr (own_evil hJ138.2.1 hc270))
            refine own_Fin.go (fun t k => XS.icmpNo X31.here hx rfl (hb hby at_304) rfl (Jvm.Free.XT.ii_ne_f hc304) k) ?_
            show own_Fin _ _ _ _ _ _ _ (T31.setTop (mkF m 307 #[.val (.int va), .val (.int vb), .val (.int vc), .val (.int vd), .val (.int ve), .val (.int vf), .val (.ref b1), .val (.int oA), .val (.int nA), .val (.int oB), .val (.int nB), .val (.int oC), .val (.int nC), .val (.int (0 : Int32)), .val (.int (1 : Int32)), .val (.int (0 : Int32)), .val (.ref b25), .val (.int (0 : Int32))] []))
            refine own_Fin.go (fun t k => XS.iconst X31.here hx rfl (hb hby at_307) k) ?_
            show own_Fin _ _ _ _ _ _ _ (T31.setTop (mkF m 308 #[.val (.int va), .val (.int vb), .val (.int vc), .val (.int vd), .val (.int ve), .val (.int vf), .val (.ref b1), .val (.int oA), .val (.int nA), .val (.int oB), .val (.int nB), .val (.int oC), .val (.int nC), .val (.int (0 : Int32)), .val (.int (1 : Int32)), .val (.int (0 : Int32)), .val (.ref b25), .val (.int (0 : Int32))] [(.int (1 : Int32))]))
            refine own_Fin.go (fun t k => XS.goto X31.here hx rfl (pc0 := 308) (pc' := 312) rfl (hb hby at_308) (by decide) (by decide) k) ?_
            show own_Fin _ _ _ _ _ _ _ (T31.setTop (mkF m 312 #[.val (.int va), .val (.int vb), .val (.int vc), .val (.int vd), .val (.int ve), .val (.int vf), .val (.ref b1), .val (.int oA), .val (.int nA), .val (.int oB), .val (.int nB), .val (.int oC), .val (.int nC), .val (.int (0 : Int32)), .val (.int (1 : Int32)), .val (.int (0 : Int32)), .val (.ref b25), .val (.int (0 : Int32))] [(.int (1 : Int32))]))
            refine own_retN X31 hx (t := .boolean) (w := (1 : Int32)) Bd.returns (by simp) (hb hby at_312) Bd.notSynchronized rfl (by decide) (by decide) ?_
            rw [e31]
            exact ⟨rfl, N31⟩
        · refine own_Fin.go (fun t k => XS.ifNo X9.here hx rfl (hb hby at_167) rfl (Jvm.Free.XT.i0_eq_f hc167) k) ?_
          show own_Fin _ _ _ _ _ _ _ (T9.setTop (mkF m 170 #[.val (.int va), .val (.int vb), .val (.int vc), .val (.int vd), .val (.int ve), .val (.int vf), .val (.ref b1), .val (.int oA), .val (.int nA), .val (.int oB), .val (.int nB), .val (.int oC), .val (.int nC), .val (.int (0 : Int32)), .val (.int (1 : Int32)), .unset, .unset, .unset] []))
          refine own_Fin.go (fun t k => XS.iconst X9.here hx rfl (hb hby at_170) k) ?_
          show own_Fin _ _ _ _ _ _ _ (T9.setTop (mkF m 171 #[.val (.int va), .val (.int vb), .val (.int vc), .val (.int vd), .val (.int ve), .val (.int vf), .val (.ref b1), .val (.int oA), .val (.int nA), .val (.int oB), .val (.int nB), .val (.int oC), .val (.int nC), .val (.int (0 : Int32)), .val (.int (1 : Int32)), .unset, .unset, .unset] [(.int (1 : Int32))]))
          refine own_Fin.go (fun t k => XS.goto X9.here hx rfl (pc0 := 171) (pc' := 175) rfl (hb hby at_171) (by decide) (by decide) k) ?_
          show own_Fin _ _ _ _ _ _ _ (T9.setTop (mkF m 175 #[.val (.int va), .val (.int vb), .val (.int vc), .val (.int vd), .val (.int ve), .val (.int vf), .val (.ref b1), .val (.int oA), .val (.int nA), .val (.int oB), .val (.int nB), .val (.int oC), .val (.int nC), .val (.int (0 : Int32)), .val (.int (1 : Int32)), .unset, .unset, .unset] [(.int (1 : Int32))]))
          refine own_Fin.go (fun t k => XS.istore X9.here hx rfl (hb hby at_175) rfl (l' := #[.val (.int va), .val (.int vb), .val (.int vc), .val (.int vd), .val (.int ve), .val (.int vf), .val (.ref b1), .val (.int oA), .val (.int nA), .val (.int oB), .val (.int nB), .val (.int oC), .val (.int nC), .val (.int (0 : Int32)), .val (.int (1 : Int32)), .val (.int (1 : Int32)), .unset, .unset]) rfl k) ?_
          show own_Fin _ _ _ _ _ _ _ (T9.setTop (mkF m 177 #[.val (.int va), .val (.int vb), .val (.int vc), .val (.int vd), .val (.int ve), .val (.int vf), .val (.ref b1), .val (.int oA), .val (.int nA), .val (.int oB), .val (.int nB), .val (.int oC), .val (.int nC), .val (.int (0 : Int32)), .val (.int (1 : Int32)), .val (.int (1 : Int32)), .unset, .unset] []))
          obtain ⟨T32, h32, X32, e32, E32, A32, D32, -, st32⟩ := newO X9 hx hZ hown (hw _ (List.mem_of_getElem? (i := 1) rfl)) (hw _ (List.mem_of_getElem? (i := 2) rfl)) (hw _ (List.mem_of_getElem? (i := 3) rfl)) e9 (g := (mkF m 177 #[.val (.int va), .val (.int vb), .val (.int vc), .val (.int vd), .val (.int ve), .val (.int vf), .val (.ref b1), .val (.int oA), .val (.int nA), .val (.int oB), .val (.int nB), .val (.int oC), .val (.int nC), .val (.int (0 : Int32)), .val (.int (1 : Int32)), .val (.int (1 : Int32)), .unset, .unset] [])) rfl (hb hby at_177) (by decide) (by decide)
          obtain ⟨b32, g32⟩ : ∃ z, z = h9.size := ⟨_, rfl⟩
          rw [← g32] at A32 D32 st32
          refine own_Fin.go st32 ?_
          have g_b32 : n0 ≤ b32 := Nat.le_trans Z9 (Nat.le_of_eq g32.symm)
          have ne_b1_b32 : b1 ≠ b32 := Nat.ne_of_lt (Nat.lt_of_lt_of_le VS.lt (Nat.le_of_eq g32.symm))
          have VS_32 := VS.ext E32
          have Z32 := Nat.le_trans Z9 E32.1
          have F_b32_bytes : Fld Z h32 b32 "com/example/wardkeeper/wardkeeper/hl7/Lines" "bytes" "[B" .null := D32 (Or.inl (hw _ (List.mem_of_getElem? (i := 11) rfl))) (ty := (.array .byte)) (by decide)
          have F_b32_ends : Fld Z h32 b32 "com/example/wardkeeper/wardkeeper/hl7/Lines" "ends" "[I" .null := D32 (Or.inl (hw _ (List.mem_of_getElem? (i := 14) rfl))) (ty := (.array .int)) (by decide)
          have F_b32_count : Fld Z h32 b32 "com/example/wardkeeper/wardkeeper/hl7/Lines" "count" "I" (.int (0 : Int32)) := D32 (Or.inl (hw _ (List.mem_of_getElem? (i := 21) rfl))) (ty := .int) (by decide)
          show own_Fin _ _ _ _ _ _ _ (T32.setTop (mkF m 180 #[.val (.int va), .val (.int vb), .val (.int vc), .val (.int vd), .val (.int ve), .val (.int vf), .val (.ref b1), .val (.int oA), .val (.int nA), .val (.int oB), .val (.int nB), .val (.int oC), .val (.int nC), .val (.int (0 : Int32)), .val (.int (1 : Int32)), .val (.int (1 : Int32)), .unset, .unset] [(.ref b32)]))
          refine own_Fin.go (fun t k => XS.dup X32.here hx rfl (hb hby at_180) rfl rfl k) ?_
          show own_Fin _ _ _ _ _ _ _ (T32.setTop (mkF m 181 #[.val (.int va), .val (.int vb), .val (.int vc), .val (.int vd), .val (.int ve), .val (.int vf), .val (.ref b1), .val (.int oA), .val (.int nA), .val (.int oB), .val (.int nB), .val (.int oC), .val (.int nC), .val (.int (0 : Int32)), .val (.int (1 : Int32)), .val (.int (1 : Int32)), .unset, .unset] [(.ref b32), (.ref b32)]))
          obtain ⟨_, _, ⟨T33, L33, k33, n33⟩, -, X33, ⟨Lc33, hQ33, l33, y33, z33⟩, st33⟩ := X32.specialBack hx (y := (⟨"com/example/wardkeeper/wardkeeper/hl7/Lines", "<init>", "()V"⟩ : MethodName)) rfl hown (mvT hZ (hw _ (List.mem_of_getElem? (i := 4) rfl))) (mvT hZ (hw _ (List.mem_of_getElem? (i := 5) rfl))) (mvT hZ (hw _ (List.mem_of_getElem? (i := 6) rfl))) (by decide) (backOf (W := 1) (own_rm_ini l Z a0 hw [] b32  h32 n0 Z32 A32 F_b32_bytes F_b32_ends F_b32_count g_b32) hZ (hw _ (List.mem_of_getElem? (i := 6) rfl)) (hw _ (List.mem_of_getElem? (i := 3) rfl)) (by decide) (by decide)) (g := (mkF m 181 #[.val (.int va), .val (.int vb), .val (.int vc), .val (.int vd), .val (.int ve), .val (.int vf), .val (.ref b1), .val (.int oA), .val (.int nA), .val (.int oB), .val (.int nB), .val (.int oC), .val (.int nC), .val (.int (0 : Int32)), .val (.int (1 : Int32)), .val (.int (1 : Int32)), .unset, .unset] [(.ref b32), (.ref b32)])) rfl (by rw [hml]; rfl) (Steps.refl _) (a := b32) (argsL := []) (rest := [(.ref b32)]) (lenOf own_pd3 rfl) rfl (by show 2 * 0 + _ ≤ _; exact Nat.le_of_eq rfl) (hb hby at_181) (fun _ _ => ⟨rfl, e32, (by decide : 2 + 2 ≤ _), (by decide : 11 + 1040 ≤ _)⟩)
          dsimp only [Pt.U, Pt.locs, Pt.cells, Pt.slots] at X33 l33 y33 z33 st33 hQ33
          subst l33 y33 z33
          obtain ⟨ob33, oe33, kb33, ke33, rfl, N33q, K33q, c33_1, c33_2, c33_3, c33_4, c33_5, c33_6, c33_7, c33_8, c33_9, c33_10, c33_11⟩ := hQ33
          refine own_Fin.go (fun t k => st33.trans k) ?_
          have N33 := Fr.app N9 N33q
          have VS_33 := VS_32.keep K33q (ninS ne_b1_b32 nin0)
          have Z33 := Nat.le_trans Z32 K33q.1
          have ne_b1_ob33 : b1 ≠ ob33 := Nat.ne_of_lt (Nat.lt_of_lt_of_le VS_32.lt c33_7)
          have ne_b32_ob33 : b32 ≠ ob33 := Nat.ne_of_lt (Nat.lt_of_lt_of_le F_b32_count.lt c33_7)
          have g_ob33 : n0 ≤ ob33 := Nat.le_trans Z32 c33_7
          have ne_b1_oe33 : b1 ≠ oe33 := Nat.ne_of_lt (Nat.lt_of_lt_of_le VS_32.lt c33_8)
          have ne_b32_oe33 : b32 ≠ oe33 := Nat.ne_of_lt (Nat.lt_of_lt_of_le F_b32_count.lt c33_8)
          have g_oe33 : n0 ≤ oe33 := Nat.le_trans Z32 c33_8
          show own_Fin _ _ _ _ _ _ _ (T33.setTop (mkF m 184 #[.val (.int va), .val (.int vb), .val (.int vc), .val (.int vd), .val (.int ve), .val (.int vf), .val (.ref b1), .val (.int oA), .val (.int nA), .val (.int oB), .val (.int nB), .val (.int oC), .val (.int nC), .val (.int (0 : Int32)), .val (.int (1 : Int32)), .val (.int (1 : Int32)), .unset, .unset] [(.ref b32)]))
          refine own_Fin.go (fun t k => XS.astore X33.here hx rfl (hb hby at_184) rfl rfl (l' := #[.val (.int va), .val (.int vb), .val (.int vc), .val (.int vd), .val (.int ve), .val (.int vf), .val (.ref b1), .val (.int oA), .val (.int nA), .val (.int oB), .val (.int nB), .val (.int oC), .val (.int nC), .val (.int (0 : Int32)), .val (.int (1 : Int32)), .val (.int (1 : Int32)), .val (.ref b32), .unset]) rfl k) ?_
          show own_Fin _ _ _ _ _ _ _ (T33.setTop (mkF m 186 #[.val (.int va), .val (.int vb), .val (.int vc), .val (.int vd), .val (.int ve), .val (.int vf), .val (.ref b1), .val (.int oA), .val (.int nA), .val (.int oB), .val (.int nB), .val (.int oC), .val (.int nC), .val (.int (0 : Int32)), .val (.int (1 : Int32)), .val (.int (1 : Int32)), .val (.ref b32), .unset] []))
          refine own_Fin.go (fun t k => XS.iload X33.here hx rfl (hb hby at_186) rfl k) ?_
          show own_Fin _ _ _ _ _ _ _ (T33.setTop (mkF m 188 #[.val (.int va), .val (.int vb), .val (.int vc), .val (.int vd), .val (.int ve), .val (.int vf), .val (.ref b1), .val (.int oA), .val (.int nA), .val (.int oB), .val (.int nB), .val (.int oC), .val (.int nC), .val (.int (0 : Int32)), .val (.int (1 : Int32)), .val (.int (1 : Int32)), .val (.ref b32), .unset] [(.int (0 : Int32))]))
          refine own_Fin.go (fun t k => XS.ifYes X33.here hx rfl (pc0 := 188) (pc' := 202) rfl (hb hby at_188) rfl (by decide) (by decide) (by decide) k) ?_
          show own_Fin _ _ _ _ _ _ _ (T33.setTop (mkF m 202 #[.val (.int va), .val (.int vb), .val (.int vc), .val (.int vd), .val (.int ve), .val (.int vf), .val (.ref b1), .val (.int oA), .val (.int nA), .val (.int oB), .val (.int nB), .val (.int oC), .val (.int nC), .val (.int (0 : Int32)), .val (.int (1 : Int32)), .val (.int (1 : Int32)), .val (.ref b32), .unset] []))
          refine own_Fin.go (fun t k => XS.iload X33.here hx rfl (hb hby at_202) rfl k) ?_
          show own_Fin _ _ _ _ _ _ _ (T33.setTop (mkF m 204 #[.val (.int va), .val (.int vb), .val (.int vc), .val (.int vd), .val (.int ve), .val (.int vf), .val (.ref b1), .val (.int oA), .val (.int nA), .val (.int oB), .val (.int nB), .val (.int oC), .val (.int nC), .val (.int (0 : Int32)), .val (.int (1 : Int32)), .val (.int (1 : Int32)), .val (.ref b32), .unset] [(.int (1 : Int32))]))
          refine own_Fin.go (fun t k => XS.ifNo X33.here hx rfl (hb hby at_204) rfl (by decide) k) ?_
          show own_Fin _ _ _ _ _ _ _ (T33.setTop (mkF m 207 #[.val (.int va), .val (.int vb), .val (.int vc), .val (.int vd), .val (.int ve), .val (.int vf), .val (.ref b1), .val (.int oA), .val (.int nA), .val (.int oB), .val (.int nB), .val (.int oC), .val (.int nC), .val (.int (0 : Int32)), .val (.int (1 : Int32)), .val (.int (1 : Int32)), .val (.ref b32), .unset] []))
          refine own_Fin.go (fun t k => XS.aload X33.here hx rfl (hb hby at_207) rfl rfl k) ?_
          show own_Fin _ _ _ _ _ _ _ (T33.setTop (mkF m 209 #[.val (.int va), .val (.int vb), .val (.int vc), .val (.int vd), .val (.int ve), .val (.int vf), .val (.ref b1), .val (.int oA), .val (.int nA), .val (.int oB), .val (.int nB), .val (.int oC), .val (.int nC), .val (.int (0 : Int32)), .val (.int (1 : Int32)), .val (.int (1 : Int32)), .val (.ref b32), .unset] [(.ref b32)]))
          obtain ⟨cq34, kq34, q34a, q34b, q34c⟩ := isOf hZ rfl c33_1
          obtain ⟨_, _, ⟨T34, L34, k34, n34⟩, -, X34, ⟨Lc34, hQ34, l34, y34, z34⟩, st34⟩ := X33.virtualBack hx (y := (⟨"com/example/wardkeeper/wardkeeper/hl7/Lines", "clear", "()V"⟩ : MethodName)) (z := (⟨"com/example/wardkeeper/wardkeeper/hl7/Lines", "clear", "()V"⟩ : MethodName)) hown (mvT hZ (hw _ (List.mem_of_getElem? (i := 15) rfl))) (mvT hZ (hw _ (List.mem_of_getElem? (i := 16) rfl))) (notFace_of_selects (args := #[]) (mvT hZ (hw _ (List.mem_of_getElem? (i := 18) rfl)))) (mvT hZ (hw _ (List.mem_of_getElem? (i := 18) rfl))) (mvT hZ (hw _ (List.mem_of_getElem? (i := 17) rfl))) (by decide) (backOf (W := 0) (own_rm_clr l Z a0 hw [] b32 ob33 oe33 (0 : Int32) T33.heap n0 Z33 c33_1 c33_2 c33_3 c33_4 g_b32) hZ (hw _ (List.mem_of_getElem? (i := 19) rfl)) (hw _ (List.mem_of_getElem? (i := 3) rfl)) (by decide) (by decide)) q34a q34c (g := (mkF m 209 #[.val (.int va), .val (.int vb), .val (.int vc), .val (.int vd), .val (.int ve), .val (.int vf), .val (.ref b1), .val (.int oA), .val (.int nA), .val (.int oB), .val (.int nB), .val (.int oC), .val (.int nC), .val (.int (0 : Int32)), .val (.int (1 : Int32)), .val (.int (1 : Int32)), .val (.ref b32), .unset] [(.ref b32)])) rfl (by rw [hml]; rfl) (Steps.refl _) (argsL := []) (rest := []) (lenOf own_pd3 rfl) rfl (by show 2 * 0 + _ ≤ _; exact Nat.le_of_eq rfl) (hb hby at_209) (fun _ _ => ⟨rfl, rfl, (by decide : 4 + 0 ≤ _), (by decide : 1051 + 0 ≤ _)⟩)
          dsimp only [Pt.U, Pt.locs, Pt.cells, Pt.slots] at X34 l34 y34 z34 st34 hQ34
          subst l34 y34 z34
          obtain ⟨rfl, N34q, K34q, c34_1, c34_2, c34_3, c34_4⟩ := hQ34
          refine own_Fin.go (fun t k => st34.trans k) ?_
          have N34 := Fr.app N33 N34q
          have VS_34 := VS_33.keep K34q (ninS ne_b1_b32 nin0)
          have V_ob33_34 := c33_5.keep K34q (ninS (Ne.symm c33_9) nin0)
          have V_oe33_34 := c33_6.keep K34q (ninS (Ne.symm c33_10) nin0)
          have Z34 := Nat.le_trans Z33 K34q.1
          show own_Fin _ _ _ _ _ _ _ (T34.setTop (mkF m 212 #[.val (.int va), .val (.int vb), .val (.int vc), .val (.int vd), .val (.int ve), .val (.int vf), .val (.ref b1), .val (.int oA), .val (.int nA), .val (.int oB), .val (.int nB), .val (.int oC), .val (.int nC), .val (.int (0 : Int32)), .val (.int (1 : Int32)), .val (.int (1 : Int32)), .val (.ref b32), .unset] []))
          refine own_Fin.go (fun t k => XS.aload X34.here hx rfl (hb hby at_212) rfl rfl k) ?_
          show own_Fin _ _ _ _ _ _ _ (T34.setTop (mkF m 214 #[.val (.int va), .val (.int vb), .val (.int vc), .val (.int vd), .val (.int ve), .val (.int vf), .val (.ref b1), .val (.int oA), .val (.int nA), .val (.int oB), .val (.int nB), .val (.int oC), .val (.int nC), .val (.int (0 : Int32)), .val (.int (1 : Int32)), .val (.int (1 : Int32)), .val (.ref b32), .unset] [(.ref b32)]))
          refine own_Fin.go (fun t k => XS.aload X34.here hx rfl (hb hby at_214) rfl rfl k) ?_
          show own_Fin _ _ _ _ _ _ _ (T34.setTop (mkF m 216 #[.val (.int va), .val (.int vb), .val (.int vc), .val (.int vd), .val (.int ve), .val (.int vf), .val (.ref b1), .val (.int oA), .val (.int nA), .val (.int oB), .val (.int nB), .val (.int oC), .val (.int nC), .val (.int (0 : Int32)), .val (.int (1 : Int32)), .val (.int (1 : Int32)), .val (.ref b32), .unset] [(.ref b1), (.ref b32)]))
          refine own_Fin.go (fun t k => XS.iload X34.here hx rfl (hb hby at_216) rfl k) ?_
          show own_Fin _ _ _ _ _ _ _ (T34.setTop (mkF m 218 #[.val (.int va), .val (.int vb), .val (.int vc), .val (.int vd), .val (.int ve), .val (.int vf), .val (.ref b1), .val (.int oA), .val (.int nA), .val (.int oB), .val (.int nB), .val (.int oC), .val (.int nC), .val (.int (0 : Int32)), .val (.int (1 : Int32)), .val (.int (1 : Int32)), .val (.ref b32), .unset] [(.int oB), (.ref b1), (.ref b32)]))
          refine own_Fin.go (fun t k => XS.iload X34.here hx rfl (hb hby at_218) rfl k) ?_
          show own_Fin _ _ _ _ _ _ _ (T34.setTop (mkF m 220 #[.val (.int va), .val (.int vb), .val (.int vc), .val (.int vd), .val (.int ve), .val (.int vf), .val (.ref b1), .val (.int oA), .val (.int nA), .val (.int oB), .val (.int nB), .val (.int oC), .val (.int nC), .val (.int (0 : Int32)), .val (.int (1 : Int32)), .val (.int (1 : Int32)), .val (.ref b32), .unset] [(.int nB), (.int oB), (.ref b1), (.ref b32)]))
          obtain ⟨cq35, kq35, q35a, q35b, q35c⟩ := isOf hZ rfl c34_1
          obtain ⟨_, _, ⟨T35, L35, k35, n35⟩, -, X35, ⟨Lc35, hQ35, l35, y35, z35⟩, st35⟩ := X34.virtualBack hx (y := (⟨"com/example/wardkeeper/wardkeeper/hl7/Lines", "add", "([BII)V"⟩ : MethodName)) (z := (⟨"com/example/wardkeeper/wardkeeper/hl7/Lines", "add", "([BII)V"⟩ : MethodName)) hown (mvT hZ (hw _ (List.mem_of_getElem? (i := 22) rfl))) (mvT hZ (hw _ (List.mem_of_getElem? (i := 23) rfl))) (notFace_of_selects (args := #[]) (mvT hZ (hw _ (List.mem_of_getElem? (i := 25) rfl)))) (mvT hZ (hw _ (List.mem_of_getElem? (i := 25) rfl))) (mvT hZ (hw _ (List.mem_of_getElem? (i := 24) rfl))) (by decide) (backOf (W := 0) (own_rm_add0 l Z a0 hw [] b32 b1 oB nB ob33 kb33 k1 (List.replicate 1024 (0 : Int32)) LS oe33 ke33 (0 : Int32) (0 : Int32) (0 : Int32) T34.heap n0 Z34 c34_1 c34_2 c34_3 c34_4 V_ob33_34 V_oe33_34 VS_34 g_b32 g_ob33 g_oe33 c33_9 c33_10 c33_11 ne_b1_b32 ne_b1_ob33 ne_b1_oe33 hJ138.2.1 (⟨by decide, by decide⟩ : own_ok 100 0) (by rw [List.length_replicate])) hZ (hw _ (List.mem_of_getElem? (i := 26) rfl)) (hw _ (List.mem_of_getElem? (i := 3) rfl)) (by decide) (by decide)) q35a q35c (g := (mkF m 220 #[.val (.int va), .val (.int vb), .val (.int vc), .val (.int vd), .val (.int ve), .val (.int vf), .val (.ref b1), .val (.int oA), .val (.int nA), .val (.int oB), .val (.int nB), .val (.int oC), .val (.int nC), .val (.int (0 : Int32)), .val (.int (1 : Int32)), .val (.int (1 : Int32)), .val (.ref b32), .unset] [(.int nB), (.int oB), (.ref b1), (.ref b32)])) rfl (by rw [hml]; rfl) (Steps.refl _) (argsL := [(.ref b1), (.int oB), (.int nB)]) (rest := []) (lenOf own_pd4 rfl) rfl (by show 2 * 0 + _ ≤ _; exact Nat.le_of_eq rfl) (hb hby at_220) (fun _ _ => ⟨rfl, rfl, (by decide : 4 + 0 ≤ _), (by decide : 1051 + 0 ≤ _)⟩)
          dsimp only [Pt.U, Pt.locs, Pt.cells, Pt.slots] at X35 l35 y35 z35 st35 hQ35
          subst l35 y35 z35
          obtain ⟨rfl, N35q, K35q, c35_1, c35_2, c35_3, c35_4, c35_5, c35_6⟩ := hQ35
          refine own_Fin.go (fun t k => st35.trans k) ?_
          have N35 := Fr.app N34 N35q
          have VS_35 := VS_34.keep K35q (ninS ne_b1_b32 (ninS ne_b1_ob33 (ninS ne_b1_oe33 nin0)))
          have Z35 := Nat.le_trans Z34 K35q.1
          have hO35 := own_next (⟨by decide, by decide⟩ : own_ok 0 0) (by decide) hJ138.2.1
          have hT35 := own_cpTake (LB := (List.replicate 1024 (0 : Int32))) (LS := LS) (S := (0 : Int32)) (o := oB) (n := nB) (by rw [List.length_replicate]) (own_up (⟨by decide, by decide⟩ : own_ok 0 0) (by decide)) hJ138.2.1
          rw [← hO35.2] at hT35
          have hL35 := own_cpLen (LB := (List.replicate 1024 (0 : Int32))) (LS := LS) (S := (0 : Int32)) (o := oB) (n := nB) (by rw [List.length_replicate]) (own_up (⟨by decide, by decide⟩ : own_ok 0 0) (by decide)) hJ138.2.1
          show own_Fin _ _ _ _ _ _ _ (T35.setTop (mkF m 223 #[.val (.int va), .val (.int vb), .val (.int vc), .val (.int vd), .val (.int ve), .val (.int vf), .val (.ref b1), .val (.int oA), .val (.int nA), .val (.int oB), .val (.int nB), .val (.int oC), .val (.int nC), .val (.int (0 : Int32)), .val (.int (1 : Int32)), .val (.int (1 : Int32)), .val (.ref b32), .unset] []))
          refine own_Fin.go (fun t k => XS.iload X35.here hx rfl (hb hby at_223) rfl k) ?_
          show own_Fin _ _ _ _ _ _ _ (T35.setTop (mkF m 225 #[.val (.int va), .val (.int vb), .val (.int vc), .val (.int vd), .val (.int ve), .val (.int vf), .val (.ref b1), .val (.int oA), .val (.int nA), .val (.int oB), .val (.int nB), .val (.int oC), .val (.int nC), .val (.int (0 : Int32)), .val (.int (1 : Int32)), .val (.int (1 : Int32)), .val (.ref b32), .unset] [(.int (1 : Int32))]))
          refine own_Fin.go (fun t k => XS.ifNo X35.here hx rfl (hb hby at_225) rfl (by decide) k) ?_
          show own_Fin _ _ _ _ _ _ _ (T35.setTop (mkF m 228 #[.val (.int va), .val (.int vb), .val (.int vc), .val (.int vd), .val (.int ve), .val (.int vf), .val (.ref b1), .val (.int oA), .val (.int nA), .val (.int oB), .val (.int nB), .val (.int oC), .val (.int nC), .val (.int (0 : Int32)), .val (.int (1 : Int32)), .val (.int (1 : Int32)), .val (.ref b32), .unset] []))
          refine own_Fin.go (fun t k => XS.aload X35.here hx rfl (hb hby at_228) rfl rfl k) ?_
          show own_Fin _ _ _ _ _ _ _ (T35.setTop (mkF m 230 #[.val (.int va), .val (.int vb), .val (.int vc), .val (.int vd), .val (.int ve), .val (.int vf), .val (.ref b1), .val (.int oA), .val (.int nA), .val (.int oB), .val (.int nB), .val (.int oC), .val (.int nC), .val (.int (0 : Int32)), .val (.int (1 : Int32)), .val (.int (1 : Int32)), .val (.ref b32), .unset] [(.ref b32)]))
          refine own_Fin.go (fun t k => XS.aload X35.here hx rfl (hb hby at_230) rfl rfl k) ?_
          show own_Fin _ _ _ _ _ _ _ (T35.setTop (mkF m 232 #[.val (.int va), .val (.int vb), .val (.int vc), .val (.int vd), .val (.int ve), .val (.int vf), .val (.ref b1), .val (.int oA), .val (.int nA), .val (.int oB), .val (.int nB), .val (.int oC), .val (.int nC), .val (.int (0 : Int32)), .val (.int (1 : Int32)), .val (.int (1 : Int32)), .val (.ref b32), .unset] [(.ref b1), (.ref b32)]))
          refine own_Fin.go (fun t k => XS.iload X35.here hx rfl (hb hby at_232) rfl k) ?_
          show own_Fin _ _ _ _ _ _ _ (T35.setTop (mkF m 234 #[.val (.int va), .val (.int vb), .val (.int vc), .val (.int vd), .val (.int ve), .val (.int vf), .val (.ref b1), .val (.int oA), .val (.int nA), .val (.int oB), .val (.int nB), .val (.int oC), .val (.int nC), .val (.int (0 : Int32)), .val (.int (1 : Int32)), .val (.int (1 : Int32)), .val (.ref b32), .unset] [(.int oC), (.ref b1), (.ref b32)]))
          refine own_Fin.go (fun t k => XS.iload X35.here hx rfl (hb hby at_234) rfl k) ?_
          show own_Fin _ _ _ _ _ _ _ (T35.setTop (mkF m 236 #[.val (.int va), .val (.int vb), .val (.int vc), .val (.int vd), .val (.int ve), .val (.int vf), .val (.ref b1), .val (.int oA), .val (.int nA), .val (.int oB), .val (.int nB), .val (.int oC), .val (.int nC), .val (.int (0 : Int32)), .val (.int (1 : Int32)), .val (.int (1 : Int32)), .val (.ref b32), .unset] [(.int nC), (.int oC), (.ref b1), (.ref b32)]))
          obtain ⟨cq36, kq36, q36a, q36b, q36c⟩ := isOf hZ rfl c35_1
          obtain ⟨_, _, ⟨T36, L36, k36, n36⟩, -, X36, ⟨Lc36, hQ36, l36, y36, z36⟩, st36⟩ := X35.virtualBack hx (y := (⟨"com/example/wardkeeper/wardkeeper/hl7/Lines", "add", "([BII)V"⟩ : MethodName)) (z := (⟨"com/example/wardkeeper/wardkeeper/hl7/Lines", "add", "([BII)V"⟩ : MethodName)) hown (mvT hZ (hw _ (List.mem_of_getElem? (i := 22) rfl))) (mvT hZ (hw _ (List.mem_of_getElem? (i := 23) rfl))) (notFace_of_selects (args := #[]) (mvT hZ (hw _ (List.mem_of_getElem? (i := 25) rfl)))) (mvT hZ (hw _ (List.mem_of_getElem? (i := 25) rfl))) (mvT hZ (hw _ (List.mem_of_getElem? (i := 24) rfl))) (by decide) (backOf (W := 0) (own_rm_add1 l Z a0 hw [] b32 b1 oC nC ob33 kb33 k1 (own_cp (List.replicate 1024 (0 : Int32)) LS (0 : Int32) oB nB) LS oe33 ke33 ((0 : Int32) + nB) (0 : Int32) (0 : Int32) T35.heap n0 Z35 c35_1 c35_2 c35_3 c35_4 c35_5 c35_6 VS_35 g_b32 g_ob33 g_oe33 c33_9 c33_10 c33_11 ne_b1_b32 ne_b1_ob33 ne_b1_oe33 hJ138.2.2 (own_up hO35.1 (by decide)) hL35) hZ (hw _ (List.mem_of_getElem? (i := 26) rfl)) (hw _ (List.mem_of_getElem? (i := 3) rfl)) (by decide) (by decide)) q36a q36c (g := (mkF m 236 #[.val (.int va), .val (.int vb), .val (.int vc), .val (.int vd), .val (.int ve), .val (.int vf), .val (.ref b1), .val (.int oA), .val (.int nA), .val (.int oB), .val (.int nB), .val (.int oC), .val (.int nC), .val (.int (0 : Int32)), .val (.int (1 : Int32)), .val (.int (1 : Int32)), .val (.ref b32), .unset] [(.int nC), (.int oC), (.ref b1), (.ref b32)])) rfl (by rw [hml]; rfl) (Steps.refl _) (argsL := [(.ref b1), (.int oC), (.int nC)]) (rest := []) (lenOf own_pd4 rfl) rfl (by show 2 * 0 + _ ≤ _; exact Nat.le_of_eq rfl) (hb hby at_236) (fun _ _ => ⟨rfl, rfl, (by decide : 4 + 0 ≤ _), (by decide : 1051 + 0 ≤ _)⟩)
          dsimp only [Pt.U, Pt.locs, Pt.cells, Pt.slots] at X36 l36 y36 z36 st36 hQ36
          subst l36 y36 z36
          obtain ⟨rfl, N36q, K36q, c36_1, c36_2, c36_3, c36_4, c36_5, c36_6⟩ := hQ36
          refine own_Fin.go (fun t k => st36.trans k) ?_
          have N36 := Fr.app N35 N36q
          have VS_36 := VS_35.keep K36q (ninS ne_b1_b32 (ninS ne_b1_ob33 (ninS ne_b1_oe33 nin0)))
          have Z36 := Nat.le_trans Z35 K36q.1
          have hO36 := own_next hO35.1 (by decide) hJ138.2.2
          have hT36 := own_cpTake (LB := (own_cp (List.replicate 1024 (0 : Int32)) LS (0 : Int32) oB nB)) (LS := LS) (S := ((0 : Int32) + nB)) (o := oC) (n := nC) hL35 (own_up hO35.1 (by decide)) hJ138.2.2
          rw [← hO36.2, hT35] at hT36
          have hL36 := own_cpLen (LB := (own_cp (List.replicate 1024 (0 : Int32)) LS (0 : Int32) oB nB)) (LS := LS) (S := ((0 : Int32) + nB)) (o := oC) (n := nC) hL35 (own_up hO35.1 (by decide)) hJ138.2.2
          show own_Fin _ _ _ _ _ _ _ (T36.setTop (mkF m 239 #[.val (.int va), .val (.int vb), .val (.int vc), .val (.int vd), .val (.int ve), .val (.int vf), .val (.ref b1), .val (.int oA), .val (.int nA), .val (.int oB), .val (.int nB), .val (.int oC), .val (.int nC), .val (.int (0 : Int32)), .val (.int (1 : Int32)), .val (.int (1 : Int32)), .val (.ref b32), .unset] []))
          refine own_Fin.go (fun t k => XS.iload X36.here hx rfl (hb hby at_239) rfl k) ?_
          show own_Fin _ _ _ _ _ _ _ (T36.setTop (mkF m 241 #[.val (.int va), .val (.int vb), .val (.int vc), .val (.int vd), .val (.int ve), .val (.int vf), .val (.ref b1), .val (.int oA), .val (.int nA), .val (.int oB), .val (.int nB), .val (.int oC), .val (.int nC), .val (.int (0 : Int32)), .val (.int (1 : Int32)), .val (.int (1 : Int32)), .val (.ref b32), .unset] [(.int (0 : Int32))]))
          refine own_Fin.go (fun t k => XS.ifYes X36.here hx rfl (pc0 := 241) (pc' := 261) rfl (hb hby at_241) rfl (by decide) (by decide) (by decide) k) ?_
          show own_Fin _ _ _ _ _ _ _ (T36.setTop (mkF m 261 #[.val (.int va), .val (.int vb), .val (.int vc), .val (.int vd), .val (.int ve), .val (.int vf), .val (.ref b1), .val (.int oA), .val (.int nA), .val (.int oB), .val (.int nB), .val (.int oC), .val (.int nC), .val (.int (0 : Int32)), .val (.int (1 : Int32)), .val (.int (1 : Int32)), .val (.ref b32), .unset] []))
          refine own_Fin.go (fun t k => XS.aload X36.here hx rfl (hb hby at_261) rfl rfl k) ?_
          show own_Fin _ _ _ _ _ _ _ (T36.setTop (mkF m 263 #[.val (.int va), .val (.int vb), .val (.int vc), .val (.int vd), .val (.int ve), .val (.int vf), .val (.ref b1), .val (.int oA), .val (.int nA), .val (.int oB), .val (.int nB), .val (.int oC), .val (.int nC), .val (.int (0 : Int32)), .val (.int (1 : Int32)), .val (.int (1 : Int32)), .val (.ref b32), .unset] [(.ref b1)]))
          refine own_Fin.go (fun t k => XS.iload X36.here hx rfl (hb hby at_263) rfl k) ?_
          show own_Fin _ _ _ _ _ _ _ (T36.setTop (mkF m 265 #[.val (.int va), .val (.int vb), .val (.int vc), .val (.int vd), .val (.int ve), .val (.int vf), .val (.ref b1), .val (.int oA), .val (.int nA), .val (.int oB), .val (.int nB), .val (.int oC), .val (.int nC), .val (.int (0 : Int32)), .val (.int (1 : Int32)), .val (.int (1 : Int32)), .val (.ref b32), .unset] [(.int oB), (.ref b1)]))
          refine own_Fin.go (fun t k => XS.iload X36.here hx rfl (hb hby at_265) rfl k) ?_
          show own_Fin _ _ _ _ _ _ _ (T36.setTop (mkF m 267 #[.val (.int va), .val (.int vb), .val (.int vc), .val (.int vd), .val (.int ve), .val (.int vf), .val (.ref b1), .val (.int oA), .val (.int nA), .val (.int oB), .val (.int nB), .val (.int oC), .val (.int nC), .val (.int (0 : Int32)), .val (.int (1 : Int32)), .val (.int (1 : Int32)), .val (.ref b32), .unset] [(.int nB), (.int oB), (.ref b1)]))
          obtain ⟨_, _, ⟨T37, L37, k37, n37⟩, -, X37, ⟨Lc37, hQ37, l37, y37, z37⟩, st37⟩ := Jvm.LawKit.callS X36 hx (y := (⟨"com/example/wardkeeper/wardkeeper/hl7/LinesAllAsciiPinLaw", "bad", "([BII)Z"⟩ : MethodName)) hown (mvT hZ (hw _ (List.mem_of_getElem? (i := 35) rfl))) (mvT hZ (hw _ (List.mem_of_getElem? (i := 36) rfl))) (mvT hZ (hw _ (List.mem_of_getElem? (i := 37) rfl))) (mvT hZ (hw _ (List.mem_of_getElem? (i := 38) rfl))) (by decide) (backOf (W := 0) (own_rm_bad l Z a0 hw [] b1 oB nB k1 LS T36.heap n0 Z36 VS_36) hZ (hw _ (List.mem_of_getElem? (i := 38) rfl)) (hw _ (List.mem_of_getElem? (i := 37) rfl)) (by decide) (by decide)) (g := (mkF m 267 #[.val (.int va), .val (.int vb), .val (.int vc), .val (.int vd), .val (.int ve), .val (.int vf), .val (.ref b1), .val (.int oA), .val (.int nA), .val (.int oB), .val (.int nB), .val (.int oC), .val (.int nC), .val (.int (0 : Int32)), .val (.int (1 : Int32)), .val (.int (1 : Int32)), .val (.ref b32), .unset] [(.int nB), (.int oB), (.ref b1)])) rfl (by rw [hml]; rfl) (argsL := [(.ref b1), (.int oB), (.int nB)]) (rest := []) (lenOf own_pd5 rfl) rfl (by show 2 * 0 + _ ≤ _; exact Nat.le_of_eq rfl) (hb hby at_267) (fun _ _ => ⟨rfl, rfl, (by decide : 4 + 0 ≤ _), (by decide : 1051 + 0 ≤ _)⟩)
          dsimp only [Pt.U, Pt.locs, Pt.cells, Pt.slots] at X37 l37 y37 z37 st37 hQ37
          subst l37 y37 z37
          obtain ⟨rfl, N37q, e37⟩ := hQ37
          refine own_Fin.go (fun t k => st37 t k) ?_
          have N37 := Fr.app N36 N37q
          show own_Fin _ _ _ _ _ _ _ (T37.setTop (mkF m 270 #[.val (.int va), .val (.int vb), .val (.int vc), .val (.int vd), .val (.int ve), .val (.int vf), .val (.ref b1), .val (.int oA), .val (.int nA), .val (.int oB), .val (.int nB), .val (.int oC), .val (.int nC), .val (.int (0 : Int32)), .val (.int (1 : Int32)), .val (.int (1 : Int32)), .val (.ref b32), .unset] [(.int (own_bad LS oB nB))]))
          by_cases hc270 : (own_bad LS oB nB) = (0 : Int32)
          · refine own_Fin.go (fun t k => XS.ifNo X37.here hx rfl (hb hby at_270) rfl (Jvm.Free.XT.i0_ne_f hc270) k) ?_
            show own_Fin _ _ _ _ _ _ _ (T37.setTop (mkF m 273 #[.val (.int va), .val (.int vb), .val (.int vc), .val (.int vd), .val (.int ve), .val (.int vf), .val (.ref b1), .val (.int oA), .val (.int nA), .val (.int oB), .val (.int nB), .val (.int oC), .val (.int nC), .val (.int (0 : Int32)), .val (.int (1 : Int32)), .val (.int (1 : Int32)), .val (.ref b32), .unset] []))
            refine own_Fin.go (fun t k => XS.iload X37.here hx rfl (hb hby at_273) rfl k) ?_
            show own_Fin _ _ _ _ _ _ _ (T37.setTop (mkF m 275 #[.val (.int va), .val (.int vb), .val (.int vc), .val (.int vd), .val (.int ve), .val (.int vf), .val (.ref b1), .val (.int oA), .val (.int nA), .val (.int oB), .val (.int nB), .val (.int oC), .val (.int nC), .val (.int (0 : Int32)), .val (.int (1 : Int32)), .val (.int (1 : Int32)), .val (.ref b32), .unset] [(.int (1 : Int32))]))
            refine own_Fin.go (fun t k => XS.ifNo X37.here hx rfl (hb hby at_275) rfl (by decide) k) ?_
            show own_Fin _ _ _ _ _ _ _ (T37.setTop (mkF m 278 #[.val (.int va), .val (.int vb), .val (.int vc), .val (.int vd), .val (.int ve), .val (.int vf), .val (.ref b1), .val (.int oA), .val (.int nA), .val (.int oB), .val (.int nB), .val (.int oC), .val (.int nC), .val (.int (0 : Int32)), .val (.int (1 : Int32)), .val (.int (1 : Int32)), .val (.ref b32), .unset] []))
            refine own_Fin.go (fun t k => XS.aload X37.here hx rfl (hb hby at_278) rfl rfl k) ?_
            show own_Fin _ _ _ _ _ _ _ (T37.setTop (mkF m 280 #[.val (.int va), .val (.int vb), .val (.int vc), .val (.int vd), .val (.int ve), .val (.int vf), .val (.ref b1), .val (.int oA), .val (.int nA), .val (.int oB), .val (.int nB), .val (.int oC), .val (.int nC), .val (.int (0 : Int32)), .val (.int (1 : Int32)), .val (.int (1 : Int32)), .val (.ref b32), .unset] [(.ref b1)]))
            refine own_Fin.go (fun t k => XS.iload X37.here hx rfl (hb hby at_280) rfl k) ?_
            show own_Fin _ _ _ _ _ _ _ (T37.setTop (mkF m 282 #[.val (.int va), .val (.int vb), .val (.int vc), .val (.int vd), .val (.int ve), .val (.int vf), .val (.ref b1), .val (.int oA), .val (.int nA), .val (.int oB), .val (.int nB), .val (.int oC), .val (.int nC), .val (.int (0 : Int32)), .val (.int (1 : Int32)), .val (.int (1 : Int32)), .val (.ref b32), .unset] [(.int oC), (.ref b1)]))
            refine own_Fin.go (fun t k => XS.iload X37.here hx rfl (hb hby at_282) rfl k) ?_
            show own_Fin _ _ _ _ _ _ _ (T37.setTop (mkF m 284 #[.val (.int va), .val (.int vb), .val (.int vc), .val (.int vd), .val (.int ve), .val (.int vf), .val (.ref b1), .val (.int oA), .val (.int nA), .val (.int oB), .val (.int nB), .val (.int oC), .val (.int nC), .val (.int (0 : Int32)), .val (.int (1 : Int32)), .val (.int (1 : Int32)), .val (.ref b32), .unset] [(.int nC), (.int oC), (.ref b1)]))
            obtain ⟨_, _, ⟨T38, L38, k38, n38⟩, -, X38, ⟨Lc38, hQ38, l38, y38, z38⟩, st38⟩ := Jvm.LawKit.callS X37 hx (y := (⟨"com/example/wardkeeper/wardkeeper/hl7/LinesAllAsciiPinLaw", "bad", "([BII)Z"⟩ : MethodName)) hown (mvT hZ (hw _ (List.mem_of_getElem? (i := 35) rfl))) (mvT hZ (hw _ (List.mem_of_getElem? (i := 36) rfl))) (mvT hZ (hw _ (List.mem_of_getElem? (i := 37) rfl))) (mvT hZ (hw _ (List.mem_of_getElem? (i := 38) rfl))) (by decide) (backOf (W := 0) (own_rm_bad l Z a0 hw [] b1 oC nC k1 LS T36.heap n0 Z36 VS_36) hZ (hw _ (List.mem_of_getElem? (i := 38) rfl)) (hw _ (List.mem_of_getElem? (i := 37) rfl)) (by decide) (by decide)) (g := (mkF m 284 #[.val (.int va), .val (.int vb), .val (.int vc), .val (.int vd), .val (.int ve), .val (.int vf), .val (.ref b1), .val (.int oA), .val (.int nA), .val (.int oB), .val (.int nB), .val (.int oC), .val (.int nC), .val (.int (0 : Int32)), .val (.int (1 : Int32)), .val (.int (1 : Int32)), .val (.ref b32), .unset] [(.int nC), (.int oC), (.ref b1)])) rfl (by rw [hml]; rfl) (argsL := [(.ref b1), (.int oC), (.int nC)]) (rest := []) (lenOf own_pd5 rfl) rfl (by show 2 * 0 + _ ≤ _; exact Nat.le_of_eq rfl) (hb hby at_284) (fun _ _ => ⟨rfl, e37, (by decide : 4 + 0 ≤ _), (by decide : 1051 + 0 ≤ _)⟩)
            dsimp only [Pt.U, Pt.locs, Pt.cells, Pt.slots] at X38 l38 y38 z38 st38 hQ38
            subst l38 y38 z38
            obtain ⟨rfl, N38q, e38⟩ := hQ38
            refine own_Fin.go (fun t k => st38 t k) ?_
            have N38 := Fr.app N37 N38q
            show own_Fin _ _ _ _ _ _ _ (T38.setTop (mkF m 287 #[.val (.int va), .val (.int vb), .val (.int vc), .val (.int vd), .val (.int ve), .val (.int vf), .val (.ref b1), .val (.int oA), .val (.int nA), .val (.int oB), .val (.int nB), .val (.int oC), .val (.int nC), .val (.int (0 : Int32)), .val (.int (1 : Int32)), .val (.int (1 : Int32)), .val (.ref b32), .unset] [(.int (own_bad LS oC nC))]))
            by_cases hc287 : (own_bad LS oC nC) = (0 : Int32)
            · refine own_Fin.go (fun t k => XS.ifNo X38.here hx rfl (hb hby at_287) rfl (Jvm.Free.XT.i0_ne_f hc287) k) ?_
              show own_Fin _ _ _ _ _ _ _ (T38.setTop (mkF m 290 #[.val (.int va), .val (.int vb), .val (.int vc), .val (.int vd), .val (.int ve), .val (.int vf), .val (.ref b1), .val (.int oA), .val (.int nA), .val (.int oB), .val (.int nB), .val (.int oC), .val (.int nC), .val (.int (0 : Int32)), .val (.int (1 : Int32)), .val (.int (1 : Int32)), .val (.ref b32), .unset] []))
              refine own_Fin.go (fun t k => XS.iconst X38.here hx rfl (hb hby at_290) k) ?_
              show own_Fin _ _ _ _ _ _ _ (T38.setTop (mkF m 291 #[.val (.int va), .val (.int vb), .val (.int vc), .val (.int vd), .val (.int ve), .val (.int vf), .val (.ref b1), .val (.int oA), .val (.int nA), .val (.int oB), .val (.int nB), .val (.int oC), .val (.int nC), .val (.int (0 : Int32)), .val (.int (1 : Int32)), .val (.int (1 : Int32)), .val (.ref b32), .unset] [(.int (1 : Int32))]))
              refine own_Fin.go (fun t k => XS.goto X38.here hx rfl (pc0 := 291) (pc' := 295) rfl (hb hby at_291) (by decide) (by decide) k) ?_
              show own_Fin _ _ _ _ _ _ _ (T38.setTop (mkF m 295 #[.val (.int va), .val (.int vb), .val (.int vc), .val (.int vd), .val (.int ve), .val (.int vf), .val (.ref b1), .val (.int oA), .val (.int nA), .val (.int oB), .val (.int nB), .val (.int oC), .val (.int nC), .val (.int (0 : Int32)), .val (.int (1 : Int32)), .val (.int (1 : Int32)), .val (.ref b32), .unset] [(.int (1 : Int32))]))
              refine own_Fin.go (fun t k => XS.istore X38.here hx rfl (hb hby at_295) rfl (l' := #[.val (.int va), .val (.int vb), .val (.int vc), .val (.int vd), .val (.int ve), .val (.int vf), .val (.ref b1), .val (.int oA), .val (.int nA), .val (.int oB), .val (.int nB), .val (.int oC), .val (.int nC), .val (.int (0 : Int32)), .val (.int (1 : Int32)), .val (.int (1 : Int32)), .val (.ref b32), .val (.int (1 : Int32))]) rfl k) ?_
              show own_Fin _ _ _ _ _ _ _ (T38.setTop (mkF m 297 #[.val (.int va), .val (.int vb), .val (.int vc), .val (.int vd), .val (.int ve), .val (.int vf), .val (.ref b1), .val (.int oA), .val (.int nA), .val (.int oB), .val (.int nB), .val (.int oC), .val (.int nC), .val (.int (0 : Int32)), .val (.int (1 : Int32)), .val (.int (1 : Int32)), .val (.ref b32), .val (.int (1 : Int32))] []))
              refine own_Fin.go (fun t k => XS.aload X38.here hx rfl (hb hby at_297) rfl rfl k) ?_
              show own_Fin _ _ _ _ _ _ _ (T38.setTop (mkF m 299 #[.val (.int va), .val (.int vb), .val (.int vc), .val (.int vd), .val (.int ve), .val (.int vf), .val (.ref b1), .val (.int oA), .val (.int nA), .val (.int oB), .val (.int nB), .val (.int oC), .val (.int nC), .val (.int (0 : Int32)), .val (.int (1 : Int32)), .val (.int (1 : Int32)), .val (.ref b32), .val (.int (1 : Int32))] [(.ref b32)]))
              obtain ⟨cq39, kq39, q39a, q39b, q39c⟩ := isOf hZ e38 c36_1
              obtain ⟨_, _, ⟨T39, L39, k39, n39⟩, -, X39, ⟨Lc39, hQ39, l39, y39, z39⟩, st39⟩ := X38.virtualBack hx (y := (⟨"com/example/wardkeeper/wardkeeper/hl7/Lines", "allAscii", "()Z"⟩ : MethodName)) (z := (⟨"com/example/wardkeeper/wardkeeper/hl7/Lines", "allAscii", "()Z"⟩ : MethodName)) hown (mvT hZ (hw _ (List.mem_of_getElem? (i := 42) rfl))) (mvT hZ (hw _ (List.mem_of_getElem? (i := 43) rfl))) (notFace_of_selects (args := #[]) (mvT hZ (hw _ (List.mem_of_getElem? (i := 45) rfl)))) (mvT hZ (hw _ (List.mem_of_getElem? (i := 45) rfl))) (mvT hZ (hw _ (List.mem_of_getElem? (i := 44) rfl))) (by decide) (backOf (W := 0) (own_rm_aa2 l Z a0 hw [] b32 ob33 kb33 (own_cp (own_cp (List.replicate 1024 (0 : Int32)) LS (0 : Int32) oB nB) LS ((0 : Int32) + nB) oC nC) oe33 ke33 ((0 : Int32) + nB) (((0 : Int32) + nB) + nC) (0 : Int32) T36.heap n0 Z36 c36_1 c36_2 c36_3 c36_4 c36_5 c36_6 (own_up hO36.1 (by decide)) hL36) hZ (hw _ (List.mem_of_getElem? (i := 46) rfl)) (hw _ (List.mem_of_getElem? (i := 3) rfl)) (by decide) (by decide)) q39a q39c (g := (mkF m 299 #[.val (.int va), .val (.int vb), .val (.int vc), .val (.int vd), .val (.int ve), .val (.int vf), .val (.ref b1), .val (.int oA), .val (.int nA), .val (.int oB), .val (.int nB), .val (.int oC), .val (.int nC), .val (.int (0 : Int32)), .val (.int (1 : Int32)), .val (.int (1 : Int32)), .val (.ref b32), .val (.int (1 : Int32))] [(.ref b32)])) rfl (by rw [hml]; rfl) (Steps.refl _) (argsL := []) (rest := []) (lenOf own_pd6 rfl) rfl (by show 2 * 0 + _ ≤ _; exact Nat.le_of_eq rfl) (hb hby at_299) (fun _ _ => ⟨rfl, e38, (by decide : 4 + 0 ≤ _), (by decide : 1051 + 0 ≤ _)⟩)
              dsimp only [Pt.U, Pt.locs, Pt.cells, Pt.slots] at X39 l39 y39 z39 st39 hQ39
              subst l39 y39 z39
              obtain ⟨rfl, N39q, e39⟩ := hQ39
              refine own_Fin.go (fun t k => st39.trans k) ?_
              have N39 := Fr.app N38 N39q
              show own_Fin _ _ _ _ _ _ _ (T39.setTop (mkF m 302 #[.val (.int va), .val (.int vb), .val (.int vc), .val (.int vd), .val (.int ve), .val (.int vf), .val (.ref b1), .val (.int oA), .val (.int nA), .val (.int oB), .val (.int nB), .val (.int oC), .val (.int nC), .val (.int (0 : Int32)), .val (.int (1 : Int32)), .val (.int (1 : Int32)), .val (.ref b32), .val (.int (1 : Int32))] [(.int (own_all (own_cp (own_cp (List.replicate 1024 (0 : Int32)) LS (0 : Int32) oB nB) LS ((0 : Int32) + nB) oC nC) (((0 : Int32) + nB) + nC)))]))
              refine own_Fin.go (fun t k => XS.iload X39.here hx rfl (hb hby at_302) rfl k) ?_
              show own_Fin _ _ _ _ _ _ _ (T39.setTop (mkF m 304 #[.val (.int va), .val (.int vb), .val (.int vc), .val (.int vd), .val (.int ve), .val (.int vf), .val (.ref b1), .val (.int oA), .val (.int nA), .val (.int oB), .val (.int nB), .val (.int oC), .val (.int nC), .val (.int (0 : Int32)), .val (.int (1 : Int32)), .val (.int (1 : Int32)), .val (.ref b32), .val (.int (1 : Int32))] [(.int (1 : Int32)), (.int (own_all (own_cp (own_cp (List.replicate 1024 (0 : Int32)) LS (0 : Int32) oB nB) LS ((0 : Int32) + nB) oC nC) (((0 : Int32) + nB) + nC)))]))
              have hc304 : (own_all (own_cp (own_cp (List.replicate 1024 (0 : Int32)) LS (0 : Int32) oB nB) LS ((0 : Int32) + nB) oC nC) (((0 : Int32) + nB) + nC)) = (1 : Int32) := own_all1 hT36 (own_app (own_app own_nil (own_good hJ138.2.1 hc270)) (own_good hJ138.2.2 hc287))
              refine own_Fin.go (fun t k => XS.icmpNo X39.here hx rfl (hb hby at_304) rfl (Jvm.Free.XT.ii_ne_f hc304) k) ?_
              show own_Fin _ _ _ _ _ _ _ (T39.setTop (mkF m 307 #[.val (.int va), .val (.int vb), .val (.int vc), .val (.int vd), .val (.int ve), .val (.int vf), .val (.ref b1), .val (.int oA), .val (.int nA), .val (.int oB), .val (.int nB), .val (.int oC), .val (.int nC), .val (.int (0 : Int32)), .val (.int (1 : Int32)), .val (.int (1 : Int32)), .val (.ref b32), .val (.int (1 : Int32))] []))
              refine own_Fin.go (fun t k => XS.iconst X39.here hx rfl (hb hby at_307) k) ?_
              show own_Fin _ _ _ _ _ _ _ (T39.setTop (mkF m 308 #[.val (.int va), .val (.int vb), .val (.int vc), .val (.int vd), .val (.int ve), .val (.int vf), .val (.ref b1), .val (.int oA), .val (.int nA), .val (.int oB), .val (.int nB), .val (.int oC), .val (.int nC), .val (.int (0 : Int32)), .val (.int (1 : Int32)), .val (.int (1 : Int32)), .val (.ref b32), .val (.int (1 : Int32))] [(.int (1 : Int32))]))
              refine own_Fin.go (fun t k => XS.goto X39.here hx rfl (pc0 := 308) (pc' := 312) rfl (hb hby at_308) (by decide) (by decide) k) ?_
              show own_Fin _ _ _ _ _ _ _ (T39.setTop (mkF m 312 #[.val (.int va), .val (.int vb), .val (.int vc), .val (.int vd), .val (.int ve), .val (.int vf), .val (.ref b1), .val (.int oA), .val (.int nA), .val (.int oB), .val (.int nB), .val (.int oC), .val (.int nC), .val (.int (0 : Int32)), .val (.int (1 : Int32)), .val (.int (1 : Int32)), .val (.ref b32), .val (.int (1 : Int32))] [(.int (1 : Int32))]))
              refine own_retN X39 hx (t := .boolean) (w := (1 : Int32)) Bd.returns (by simp) (hb hby at_312) Bd.notSynchronized rfl (by decide) (by decide) ?_
              rw [e39]
              exact ⟨rfl, N39⟩
            · refine own_Fin.go (fun t k => XS.ifYes X38.here hx rfl (pc0 := 287) (pc' := 294) rfl (hb hby at_287) rfl (Jvm.Free.XT.i0_ne_t hc287) (by decide) (by decide) k) ?_
              show own_Fin _ _ _ _ _ _ _ (T38.setTop (mkF m 294 #[.val (.int va), .val (.int vb), .val (.int vc), .val (.int vd), .val (.int ve), .val (.int vf), .val (.ref b1), .val (.int oA), .val (.int nA), .val (.int oB), .val (.int nB), .val (.int oC), .val (.int nC), .val (.int (0 : Int32)), .val (.int (1 : Int32)), .val (.int (1 : Int32)), .val (.ref b32), .unset] []))
              refine own_Fin.go (fun t k => XS.iconst X38.here hx rfl (hb hby at_294) k) ?_
              show own_Fin _ _ _ _ _ _ _ (T38.setTop (mkF m 295 #[.val (.int va), .val (.int vb), .val (.int vc), .val (.int vd), .val (.int ve), .val (.int vf), .val (.ref b1), .val (.int oA), .val (.int nA), .val (.int oB), .val (.int nB), .val (.int oC), .val (.int nC), .val (.int (0 : Int32)), .val (.int (1 : Int32)), .val (.int (1 : Int32)), .val (.ref b32), .unset] [(.int (0 : Int32))]))
              refine own_Fin.go (fun t k => XS.istore X38.here hx rfl (hb hby at_295) rfl (l' := #[.val (.int va), .val (.int vb), .val (.int vc), .val (.int vd), .val (.int ve), .val (.int vf), .val (.ref b1), .val (.int oA), .val (.int nA), .val (.int oB), .val (.int nB), .val (.int oC), .val (.int nC), .val (.int (0 : Int32)), .val (.int (1 : Int32)), .val (.int (1 : Int32)), .val (.ref b32), .val (.int (0 : Int32))]) rfl k) ?_
              show own_Fin _ _ _ _ _ _ _ (T38.setTop (mkF m 297 #[.val (.int va), .val (.int vb), .val (.int vc), .val (.int vd), .val (.int ve), .val (.int vf), .val (.ref b1), .val (.int oA), .val (.int nA), .val (.int oB), .val (.int nB), .val (.int oC), .val (.int nC), .val (.int (0 : Int32)), .val (.int (1 : Int32)), .val (.int (1 : Int32)), .val (.ref b32), .val (.int (0 : Int32))] []))
              refine own_Fin.go (fun t k => XS.aload X38.here hx rfl (hb hby at_297) rfl rfl k) ?_
              show own_Fin _ _ _ _ _ _ _ (T38.setTop (mkF m 299 #[.val (.int va), .val (.int vb), .val (.int vc), .val (.int vd), .val (.int ve), .val (.int vf), .val (.ref b1), .val (.int oA), .val (.int nA), .val (.int oB), .val (.int nB), .val (.int oC), .val (.int nC), .val (.int (0 : Int32)), .val (.int (1 : Int32)), .val (.int (1 : Int32)), .val (.ref b32), .val (.int (0 : Int32))] [(.ref b32)]))
              obtain ⟨cq40, kq40, q40a, q40b, q40c⟩ := isOf hZ e38 c36_1
              obtain ⟨_, _, ⟨T40, L40, k40, n40⟩, -, X40, ⟨Lc40, hQ40, l40, y40, z40⟩, st40⟩ := X38.virtualBack hx (y := (⟨"com/example/wardkeeper/wardkeeper/hl7/Lines", "allAscii", "()Z"⟩ : MethodName)) (z := (⟨"com/example/wardkeeper/wardkeeper/hl7/Lines", "allAscii", "()Z"⟩ : MethodName)) hown (mvT hZ (hw _ (List.mem_of_getElem? (i := 42) rfl))) (mvT hZ (hw _ (List.mem_of_getElem? (i := 43) rfl))) (notFace_of_selects (args := #[]) (mvT hZ (hw _ (List.mem_of_getElem? (i := 45) rfl)))) (mvT hZ (hw _ (List.mem_of_getElem? (i := 45) rfl))) (mvT hZ (hw _ (List.mem_of_getElem? (i := 44) rfl))) (by decide) (backOf (W := 0) (own_rm_aa2 l Z a0 hw [] b32 ob33 kb33 (own_cp (own_cp (List.replicate 1024 (0 : Int32)) LS (0 : Int32) oB nB) LS ((0 : Int32) + nB) oC nC) oe33 ke33 ((0 : Int32) + nB) (((0 : Int32) + nB) + nC) (0 : Int32) T36.heap n0 Z36 c36_1 c36_2 c36_3 c36_4 c36_5 c36_6 (own_up hO36.1 (by decide)) hL36) hZ (hw _ (List.mem_of_getElem? (i := 46) rfl)) (hw _ (List.mem_of_getElem? (i := 3) rfl)) (by decide) (by decide)) q40a q40c (g := (mkF m 299 #[.val (.int va), .val (.int vb), .val (.int vc), .val (.int vd), .val (.int ve), .val (.int vf), .val (.ref b1), .val (.int oA), .val (.int nA), .val (.int oB), .val (.int nB), .val (.int oC), .val (.int nC), .val (.int (0 : Int32)), .val (.int (1 : Int32)), .val (.int (1 : Int32)), .val (.ref b32), .val (.int (0 : Int32))] [(.ref b32)])) rfl (by rw [hml]; rfl) (Steps.refl _) (argsL := []) (rest := []) (lenOf own_pd6 rfl) rfl (by show 2 * 0 + _ ≤ _; exact Nat.le_of_eq rfl) (hb hby at_299) (fun _ _ => ⟨rfl, e38, (by decide : 4 + 0 ≤ _), (by decide : 1051 + 0 ≤ _)⟩)
              dsimp only [Pt.U, Pt.locs, Pt.cells, Pt.slots] at X40 l40 y40 z40 st40 hQ40
              subst l40 y40 z40
              obtain ⟨rfl, N40q, e40⟩ := hQ40
              refine own_Fin.go (fun t k => st40.trans k) ?_
              have N40 := Fr.app N38 N40q
              show own_Fin _ _ _ _ _ _ _ (T40.setTop (mkF m 302 #[.val (.int va), .val (.int vb), .val (.int vc), .val (.int vd), .val (.int ve), .val (.int vf), .val (.ref b1), .val (.int oA), .val (.int nA), .val (.int oB), .val (.int nB), .val (.int oC), .val (.int nC), .val (.int (0 : Int32)), .val (.int (1 : Int32)), .val (.int (1 : Int32)), .val (.ref b32), .val (.int (0 : Int32))] [(.int (own_all (own_cp (own_cp (List.replicate 1024 (0 : Int32)) LS (0 : Int32) oB nB) LS ((0 : Int32) + nB) oC nC) (((0 : Int32) + nB) + nC)))]))
              refine own_Fin.go (fun t k => XS.iload X40.here hx rfl (hb hby at_302) rfl k) ?_
              show own_Fin _ _ _ _ _ _ _ (T40.setTop (mkF m 304 #[.val (.int va), .val (.int vb), .val (.int vc), .val (.int vd), .val (.int ve), .val (.int vf), .val (.ref b1), .val (.int oA), .val (.int nA), .val (.int oB), .val (.int nB), .val (.int oC), .val (.int nC), .val (.int (0 : Int32)), .val (.int (1 : Int32)), .val (.int (1 : Int32)), .val (.ref b32), .val (.int (0 : Int32))] [(.int (0 : Int32)), (.int (own_all (own_cp (own_cp (List.replicate 1024 (0 : Int32)) LS (0 : Int32) oB nB) LS ((0 : Int32) + nB) oC nC) (((0 : Int32) + nB) + nC)))]))
              have hc304 : (own_all (own_cp (own_cp (List.replicate 1024 (0 : Int32)) LS (0 : Int32) oB nB) LS ((0 : Int32) + nB) oC nC) (((0 : Int32) + nB) + nC)) = (0 : Int32) := own_all0 hT36 (own_inr (own_evil hJ138.2.2 hc287))
              refine own_Fin.go (fun t k => XS.icmpNo X40.here hx rfl (hb hby at_304) rfl (Jvm.Free.XT.ii_ne_f hc304) k) ?_
              show own_Fin _ _ _ _ _ _ _ (T40.setTop (mkF m 307 #[.val (.int va), .val (.int vb), .val (.int vc), .val (.int vd), .val (.int ve), .val (.int vf), .val (.ref b1), .val (.int oA), .val (.int nA), .val (.int oB), .val (.int nB), .val (.int oC), .val (.int nC), .val (.int (0 : Int32)), .val (.int (1 : Int32)), .val (.int (1 : Int32)), .val (.ref b32), .val (.int (0 : Int32))] []))
              refine own_Fin.go (fun t k => XS.iconst X40.here hx rfl (hb hby at_307) k) ?_
              show own_Fin _ _ _ _ _ _ _ (T40.setTop (mkF m 308 #[.val (.int va), .val (.int vb), .val (.int vc), .val (.int vd), .val (.int ve), .val (.int vf), .val (.ref b1), .val (.int oA), .val (.int nA), .val (.int oB), .val (.int nB), .val (.int oC), .val (.int nC), .val (.int (0 : Int32)), .val (.int (1 : Int32)), .val (.int (1 : Int32)), .val (.ref b32), .val (.int (0 : Int32))] [(.int (1 : Int32))]))
              refine own_Fin.go (fun t k => XS.goto X40.here hx rfl (pc0 := 308) (pc' := 312) rfl (hb hby at_308) (by decide) (by decide) k) ?_
              show own_Fin _ _ _ _ _ _ _ (T40.setTop (mkF m 312 #[.val (.int va), .val (.int vb), .val (.int vc), .val (.int vd), .val (.int ve), .val (.int vf), .val (.ref b1), .val (.int oA), .val (.int nA), .val (.int oB), .val (.int nB), .val (.int oC), .val (.int nC), .val (.int (0 : Int32)), .val (.int (1 : Int32)), .val (.int (1 : Int32)), .val (.ref b32), .val (.int (0 : Int32))] [(.int (1 : Int32))]))
              refine own_retN X40 hx (t := .boolean) (w := (1 : Int32)) Bd.returns (by simp) (hb hby at_312) Bd.notSynchronized rfl (by decide) (by decide) ?_
              rw [e40]
              exact ⟨rfl, N40⟩
          · refine own_Fin.go (fun t k => XS.ifYes X37.here hx rfl (pc0 := 270) (pc' := 294) rfl (hb hby at_270) rfl (Jvm.Free.XT.i0_ne_t hc270) (by decide) (by decide) k) ?_
            show own_Fin _ _ _ _ _ _ _ (T37.setTop (mkF m 294 #[.val (.int va), .val (.int vb), .val (.int vc), .val (.int vd), .val (.int ve), .val (.int vf), .val (.ref b1), .val (.int oA), .val (.int nA), .val (.int oB), .val (.int nB), .val (.int oC), .val (.int nC), .val (.int (0 : Int32)), .val (.int (1 : Int32)), .val (.int (1 : Int32)), .val (.ref b32), .unset] []))
            refine own_Fin.go (fun t k => XS.iconst X37.here hx rfl (hb hby at_294) k) ?_
            show own_Fin _ _ _ _ _ _ _ (T37.setTop (mkF m 295 #[.val (.int va), .val (.int vb), .val (.int vc), .val (.int vd), .val (.int ve), .val (.int vf), .val (.ref b1), .val (.int oA), .val (.int nA), .val (.int oB), .val (.int nB), .val (.int oC), .val (.int nC), .val (.int (0 : Int32)), .val (.int (1 : Int32)), .val (.int (1 : Int32)), .val (.ref b32), .unset] [(.int (0 : Int32))]))
            refine own_Fin.go (fun t k => XS.istore X37.here hx rfl (hb hby at_295) rfl (l' := #[.val (.int va), .val (.int vb), .val (.int vc), .val (.int vd), .val (.int ve), .val (.int vf), .val (.ref b1), .val (.int oA), .val (.int nA), .val (.int oB), .val (.int nB), .val (.int oC), .val (.int nC), .val (.int (0 : Int32)), .val (.int (1 : Int32)), .val (.int (1 : Int32)), .val (.ref b32), .val (.int (0 : Int32))]) rfl k) ?_
            show own_Fin _ _ _ _ _ _ _ (T37.setTop (mkF m 297 #[.val (.int va), .val (.int vb), .val (.int vc), .val (.int vd), .val (.int ve), .val (.int vf), .val (.ref b1), .val (.int oA), .val (.int nA), .val (.int oB), .val (.int nB), .val (.int oC), .val (.int nC), .val (.int (0 : Int32)), .val (.int (1 : Int32)), .val (.int (1 : Int32)), .val (.ref b32), .val (.int (0 : Int32))] []))
            refine own_Fin.go (fun t k => XS.aload X37.here hx rfl (hb hby at_297) rfl rfl k) ?_
            show own_Fin _ _ _ _ _ _ _ (T37.setTop (mkF m 299 #[.val (.int va), .val (.int vb), .val (.int vc), .val (.int vd), .val (.int ve), .val (.int vf), .val (.ref b1), .val (.int oA), .val (.int nA), .val (.int oB), .val (.int nB), .val (.int oC), .val (.int nC), .val (.int (0 : Int32)), .val (.int (1 : Int32)), .val (.int (1 : Int32)), .val (.ref b32), .val (.int (0 : Int32))] [(.ref b32)]))
            obtain ⟨cq41, kq41, q41a, q41b, q41c⟩ := isOf hZ e37 c36_1
            obtain ⟨_, _, ⟨T41, L41, k41, n41⟩, -, X41, ⟨Lc41, hQ41, l41, y41, z41⟩, st41⟩ := X37.virtualBack hx (y := (⟨"com/example/wardkeeper/wardkeeper/hl7/Lines", "allAscii", "()Z"⟩ : MethodName)) (z := (⟨"com/example/wardkeeper/wardkeeper/hl7/Lines", "allAscii", "()Z"⟩ : MethodName)) hown (mvT hZ (hw _ (List.mem_of_getElem? (i := 42) rfl))) (mvT hZ (hw _ (List.mem_of_getElem? (i := 43) rfl))) (notFace_of_selects (args := #[]) (mvT hZ (hw _ (List.mem_of_getElem? (i := 45) rfl)))) (mvT hZ (hw _ (List.mem_of_getElem? (i := 45) rfl))) (mvT hZ (hw _ (List.mem_of_getElem? (i := 44) rfl))) (by decide) (backOf (W := 0) (own_rm_aa2 l Z a0 hw [] b32 ob33 kb33 (own_cp (own_cp (List.replicate 1024 (0 : Int32)) LS (0 : Int32) oB nB) LS ((0 : Int32) + nB) oC nC) oe33 ke33 ((0 : Int32) + nB) (((0 : Int32) + nB) + nC) (0 : Int32) T36.heap n0 Z36 c36_1 c36_2 c36_3 c36_4 c36_5 c36_6 (own_up hO36.1 (by decide)) hL36) hZ (hw _ (List.mem_of_getElem? (i := 46) rfl)) (hw _ (List.mem_of_getElem? (i := 3) rfl)) (by decide) (by decide)) q41a q41c (g := (mkF m 299 #[.val (.int va), .val (.int vb), .val (.int vc), .val (.int vd), .val (.int ve), .val (.int vf), .val (.ref b1), .val (.int oA), .val (.int nA), .val (.int oB), .val (.int nB), .val (.int oC), .val (.int nC), .val (.int (0 : Int32)), .val (.int (1 : Int32)), .val (.int (1 : Int32)), .val (.ref b32), .val (.int (0 : Int32))] [(.ref b32)])) rfl (by rw [hml]; rfl) (Steps.refl _) (argsL := []) (rest := []) (lenOf own_pd6 rfl) rfl (by show 2 * 0 + _ ≤ _; exact Nat.le_of_eq rfl) (hb hby at_299) (fun _ _ => ⟨rfl, e37, (by decide : 4 + 0 ≤ _), (by decide : 1051 + 0 ≤ _)⟩)
            dsimp only [Pt.U, Pt.locs, Pt.cells, Pt.slots] at X41 l41 y41 z41 st41 hQ41
            subst l41 y41 z41
            obtain ⟨rfl, N41q, e41⟩ := hQ41
            refine own_Fin.go (fun t k => st41.trans k) ?_
            have N41 := Fr.app N37 N41q
            show own_Fin _ _ _ _ _ _ _ (T41.setTop (mkF m 302 #[.val (.int va), .val (.int vb), .val (.int vc), .val (.int vd), .val (.int ve), .val (.int vf), .val (.ref b1), .val (.int oA), .val (.int nA), .val (.int oB), .val (.int nB), .val (.int oC), .val (.int nC), .val (.int (0 : Int32)), .val (.int (1 : Int32)), .val (.int (1 : Int32)), .val (.ref b32), .val (.int (0 : Int32))] [(.int (own_all (own_cp (own_cp (List.replicate 1024 (0 : Int32)) LS (0 : Int32) oB nB) LS ((0 : Int32) + nB) oC nC) (((0 : Int32) + nB) + nC)))]))
            refine own_Fin.go (fun t k => XS.iload X41.here hx rfl (hb hby at_302) rfl k) ?_
            show own_Fin _ _ _ _ _ _ _ (T41.setTop (mkF m 304 #[.val (.int va), .val (.int vb), .val (.int vc), .val (.int vd), .val (.int ve), .val (.int vf), .val (.ref b1), .val (.int oA), .val (.int nA), .val (.int oB), .val (.int nB), .val (.int oC), .val (.int nC), .val (.int (0 : Int32)), .val (.int (1 : Int32)), .val (.int (1 : Int32)), .val (.ref b32), .val (.int (0 : Int32))] [(.int (0 : Int32)), (.int (own_all (own_cp (own_cp (List.replicate 1024 (0 : Int32)) LS (0 : Int32) oB nB) LS ((0 : Int32) + nB) oC nC) (((0 : Int32) + nB) + nC)))]))
            have hc304 : (own_all (own_cp (own_cp (List.replicate 1024 (0 : Int32)) LS (0 : Int32) oB nB) LS ((0 : Int32) + nB) oC nC) (((0 : Int32) + nB) + nC)) = (0 : Int32) := own_all0 hT36 (own_inl (own_inr (own_evil hJ138.2.1 hc270)))
            refine own_Fin.go (fun t k => XS.icmpNo X41.here hx rfl (hb hby at_304) rfl (Jvm.Free.XT.ii_ne_f hc304) k) ?_
            show own_Fin _ _ _ _ _ _ _ (T41.setTop (mkF m 307 #[.val (.int va), .val (.int vb), .val (.int vc), .val (.int vd), .val (.int ve), .val (.int vf), .val (.ref b1), .val (.int oA), .val (.int nA), .val (.int oB), .val (.int nB), .val (.int oC), .val (.int nC), .val (.int (0 : Int32)), .val (.int (1 : Int32)), .val (.int (1 : Int32)), .val (.ref b32), .val (.int (0 : Int32))] []))
            refine own_Fin.go (fun t k => XS.iconst X41.here hx rfl (hb hby at_307) k) ?_
            show own_Fin _ _ _ _ _ _ _ (T41.setTop (mkF m 308 #[.val (.int va), .val (.int vb), .val (.int vc), .val (.int vd), .val (.int ve), .val (.int vf), .val (.ref b1), .val (.int oA), .val (.int nA), .val (.int oB), .val (.int nB), .val (.int oC), .val (.int nC), .val (.int (0 : Int32)), .val (.int (1 : Int32)), .val (.int (1 : Int32)), .val (.ref b32), .val (.int (0 : Int32))] [(.int (1 : Int32))]))
            refine own_Fin.go (fun t k => XS.goto X41.here hx rfl (pc0 := 308) (pc' := 312) rfl (hb hby at_308) (by decide) (by decide) k) ?_
            show own_Fin _ _ _ _ _ _ _ (T41.setTop (mkF m 312 #[.val (.int va), .val (.int vb), .val (.int vc), .val (.int vd), .val (.int ve), .val (.int vf), .val (.ref b1), .val (.int oA), .val (.int nA), .val (.int oB), .val (.int nB), .val (.int oC), .val (.int nC), .val (.int (0 : Int32)), .val (.int (1 : Int32)), .val (.int (1 : Int32)), .val (.ref b32), .val (.int (0 : Int32))] [(.int (1 : Int32))]))
            refine own_retN X41 hx (t := .boolean) (w := (1 : Int32)) Bd.returns (by simp) (hb hby at_312) Bd.notSynchronized rfl (by decide) (by decide) ?_
            rw [e41]
            exact ⟨rfl, N41⟩
    · refine own_Fin.go (fun t k => XS.ifNo X9.here hx rfl (hb hby at_141) rfl (Jvm.Free.XT.i0_eq_f hc141) k) ?_
      show own_Fin _ _ _ _ _ _ _ (T9.setTop (mkF m 144 #[.val (.int va), .val (.int vb), .val (.int vc), .val (.int vd), .val (.int ve), .val (.int vf), .val (.ref b1), .val (.int oA), .val (.int nA), .val (.int oB), .val (.int nB), .val (.int oC), .val (.int nC), .unset, .unset, .unset, .unset, .unset] []))
      refine own_Fin.go (fun t k => XS.iconst X9.here hx rfl (hb hby at_144) k) ?_
      show own_Fin _ _ _ _ _ _ _ (T9.setTop (mkF m 145 #[.val (.int va), .val (.int vb), .val (.int vc), .val (.int vd), .val (.int ve), .val (.int vf), .val (.ref b1), .val (.int oA), .val (.int nA), .val (.int oB), .val (.int nB), .val (.int oC), .val (.int nC), .unset, .unset, .unset, .unset, .unset] [(.int (1 : Int32))]))
      refine own_Fin.go (fun t k => XS.goto X9.here hx rfl (pc0 := 145) (pc' := 149) rfl (hb hby at_145) (by decide) (by decide) k) ?_
      show own_Fin _ _ _ _ _ _ _ (T9.setTop (mkF m 149 #[.val (.int va), .val (.int vb), .val (.int vc), .val (.int vd), .val (.int ve), .val (.int vf), .val (.ref b1), .val (.int oA), .val (.int nA), .val (.int oB), .val (.int nB), .val (.int oC), .val (.int nC), .unset, .unset, .unset, .unset, .unset] [(.int (1 : Int32))]))
      refine own_Fin.go (fun t k => XS.istore X9.here hx rfl (hb hby at_149) rfl (l' := #[.val (.int va), .val (.int vb), .val (.int vc), .val (.int vd), .val (.int ve), .val (.int vf), .val (.ref b1), .val (.int oA), .val (.int nA), .val (.int oB), .val (.int nB), .val (.int oC), .val (.int nC), .val (.int (1 : Int32)), .unset, .unset, .unset, .unset]) rfl k) ?_
      show own_Fin _ _ _ _ _ _ _ (T9.setTop (mkF m 151 #[.val (.int va), .val (.int vb), .val (.int vc), .val (.int vd), .val (.int ve), .val (.int vf), .val (.ref b1), .val (.int oA), .val (.int nA), .val (.int oB), .val (.int nB), .val (.int oC), .val (.int nC), .val (.int (1 : Int32)), .unset, .unset, .unset, .unset] []))
      refine own_Fin.go (fun t k => XS.iloadN X9.here hx rfl (hb hby at_151) rfl k) ?_
      show own_Fin _ _ _ _ _ _ _ (T9.setTop (mkF m 152 #[.val (.int va), .val (.int vb), .val (.int vc), .val (.int vd), .val (.int ve), .val (.int vf), .val (.ref b1), .val (.int oA), .val (.int nA), .val (.int oB), .val (.int nB), .val (.int oC), .val (.int nC), .val (.int (1 : Int32)), .unset, .unset, .unset, .unset] [(.int vc)]))
      refine own_Fin.go (fun t k => XS.iconst X9.here hx rfl (hb hby at_152) k) ?_
      show own_Fin _ _ _ _ _ _ _ (T9.setTop (mkF m 153 #[.val (.int va), .val (.int vb), .val (.int vc), .val (.int vd), .val (.int ve), .val (.int vf), .val (.ref b1), .val (.int oA), .val (.int nA), .val (.int oB), .val (.int nB), .val (.int oC), .val (.int nC), .val (.int (1 : Int32)), .unset, .unset, .unset, .unset] [(.int (2 : Int32)), (.int vc)]))
      refine own_Fin.go (fun t k => XS.iand X9.here hx rfl (hb hby at_153) rfl k) ?_
      show own_Fin _ _ _ _ _ _ _ (T9.setTop (mkF m 154 #[.val (.int va), .val (.int vb), .val (.int vc), .val (.int vd), .val (.int ve), .val (.int vf), .val (.ref b1), .val (.int oA), .val (.int nA), .val (.int oB), .val (.int nB), .val (.int oC), .val (.int nC), .val (.int (1 : Int32)), .unset, .unset, .unset, .unset] [(.int (vc &&& (2 : Int32)))]))
      by_cases hc154 : (vc &&& (2 : Int32)) = (0 : Int32)
      · refine own_Fin.go (fun t k => XS.ifYes X9.here hx rfl (pc0 := 154) (pc' := 161) rfl (hb hby at_154) rfl (Jvm.Free.XT.i0_eq_t hc154) (by decide) (by decide) k) ?_
        show own_Fin _ _ _ _ _ _ _ (T9.setTop (mkF m 161 #[.val (.int va), .val (.int vb), .val (.int vc), .val (.int vd), .val (.int ve), .val (.int vf), .val (.ref b1), .val (.int oA), .val (.int nA), .val (.int oB), .val (.int nB), .val (.int oC), .val (.int nC), .val (.int (1 : Int32)), .unset, .unset, .unset, .unset] []))
        refine own_Fin.go (fun t k => XS.iconst X9.here hx rfl (hb hby at_161) k) ?_
        show own_Fin _ _ _ _ _ _ _ (T9.setTop (mkF m 162 #[.val (.int va), .val (.int vb), .val (.int vc), .val (.int vd), .val (.int ve), .val (.int vf), .val (.ref b1), .val (.int oA), .val (.int nA), .val (.int oB), .val (.int nB), .val (.int oC), .val (.int nC), .val (.int (1 : Int32)), .unset, .unset, .unset, .unset] [(.int (0 : Int32))]))
        refine own_Fin.go (fun t k => XS.istore X9.here hx rfl (hb hby at_162) rfl (l' := #[.val (.int va), .val (.int vb), .val (.int vc), .val (.int vd), .val (.int ve), .val (.int vf), .val (.ref b1), .val (.int oA), .val (.int nA), .val (.int oB), .val (.int nB), .val (.int oC), .val (.int nC), .val (.int (1 : Int32)), .val (.int (0 : Int32)), .unset, .unset, .unset]) rfl k) ?_
        show own_Fin _ _ _ _ _ _ _ (T9.setTop (mkF m 164 #[.val (.int va), .val (.int vb), .val (.int vc), .val (.int vd), .val (.int ve), .val (.int vf), .val (.ref b1), .val (.int oA), .val (.int nA), .val (.int oB), .val (.int nB), .val (.int oC), .val (.int nC), .val (.int (1 : Int32)), .val (.int (0 : Int32)), .unset, .unset, .unset] []))
        refine own_Fin.go (fun t k => XS.iloadN X9.here hx rfl (hb hby at_164) rfl k) ?_
        show own_Fin _ _ _ _ _ _ _ (T9.setTop (mkF m 165 #[.val (.int va), .val (.int vb), .val (.int vc), .val (.int vd), .val (.int ve), .val (.int vf), .val (.ref b1), .val (.int oA), .val (.int nA), .val (.int oB), .val (.int nB), .val (.int oC), .val (.int nC), .val (.int (1 : Int32)), .val (.int (0 : Int32)), .unset, .unset, .unset] [(.int vc)]))
        refine own_Fin.go (fun t k => XS.iconst X9.here hx rfl (hb hby at_165) k) ?_
        show own_Fin _ _ _ _ _ _ _ (T9.setTop (mkF m 166 #[.val (.int va), .val (.int vb), .val (.int vc), .val (.int vd), .val (.int ve), .val (.int vf), .val (.ref b1), .val (.int oA), .val (.int nA), .val (.int oB), .val (.int nB), .val (.int oC), .val (.int nC), .val (.int (1 : Int32)), .val (.int (0 : Int32)), .unset, .unset, .unset] [(.int (4 : Int32)), (.int vc)]))
        refine own_Fin.go (fun t k => XS.iand X9.here hx rfl (hb hby at_166) rfl k) ?_
        show own_Fin _ _ _ _ _ _ _ (T9.setTop (mkF m 167 #[.val (.int va), .val (.int vb), .val (.int vc), .val (.int vd), .val (.int ve), .val (.int vf), .val (.ref b1), .val (.int oA), .val (.int nA), .val (.int oB), .val (.int nB), .val (.int oC), .val (.int nC), .val (.int (1 : Int32)), .val (.int (0 : Int32)), .unset, .unset, .unset] [(.int (vc &&& (4 : Int32)))]))
        by_cases hc167 : (vc &&& (4 : Int32)) = (0 : Int32)
        · refine own_Fin.go (fun t k => XS.ifYes X9.here hx rfl (pc0 := 167) (pc' := 174) rfl (hb hby at_167) rfl (Jvm.Free.XT.i0_eq_t hc167) (by decide) (by decide) k) ?_
          show own_Fin _ _ _ _ _ _ _ (T9.setTop (mkF m 174 #[.val (.int va), .val (.int vb), .val (.int vc), .val (.int vd), .val (.int ve), .val (.int vf), .val (.ref b1), .val (.int oA), .val (.int nA), .val (.int oB), .val (.int nB), .val (.int oC), .val (.int nC), .val (.int (1 : Int32)), .val (.int (0 : Int32)), .unset, .unset, .unset] []))
          refine own_Fin.go (fun t k => XS.iconst X9.here hx rfl (hb hby at_174) k) ?_
          show own_Fin _ _ _ _ _ _ _ (T9.setTop (mkF m 175 #[.val (.int va), .val (.int vb), .val (.int vc), .val (.int vd), .val (.int ve), .val (.int vf), .val (.ref b1), .val (.int oA), .val (.int nA), .val (.int oB), .val (.int nB), .val (.int oC), .val (.int nC), .val (.int (1 : Int32)), .val (.int (0 : Int32)), .unset, .unset, .unset] [(.int (0 : Int32))]))
          refine own_Fin.go (fun t k => XS.istore X9.here hx rfl (hb hby at_175) rfl (l' := #[.val (.int va), .val (.int vb), .val (.int vc), .val (.int vd), .val (.int ve), .val (.int vf), .val (.ref b1), .val (.int oA), .val (.int nA), .val (.int oB), .val (.int nB), .val (.int oC), .val (.int nC), .val (.int (1 : Int32)), .val (.int (0 : Int32)), .val (.int (0 : Int32)), .unset, .unset]) rfl k) ?_
          show own_Fin _ _ _ _ _ _ _ (T9.setTop (mkF m 177 #[.val (.int va), .val (.int vb), .val (.int vc), .val (.int vd), .val (.int ve), .val (.int vf), .val (.ref b1), .val (.int oA), .val (.int nA), .val (.int oB), .val (.int nB), .val (.int oC), .val (.int nC), .val (.int (1 : Int32)), .val (.int (0 : Int32)), .val (.int (0 : Int32)), .unset, .unset] []))
          obtain ⟨T42, h42, X42, e42, E42, A42, D42, -, st42⟩ := newO X9 hx hZ hown (hw _ (List.mem_of_getElem? (i := 1) rfl)) (hw _ (List.mem_of_getElem? (i := 2) rfl)) (hw _ (List.mem_of_getElem? (i := 3) rfl)) e9 (g := (mkF m 177 #[.val (.int va), .val (.int vb), .val (.int vc), .val (.int vd), .val (.int ve), .val (.int vf), .val (.ref b1), .val (.int oA), .val (.int nA), .val (.int oB), .val (.int nB), .val (.int oC), .val (.int nC), .val (.int (1 : Int32)), .val (.int (0 : Int32)), .val (.int (0 : Int32)), .unset, .unset] [])) rfl (hb hby at_177) (by decide) (by decide)
          obtain ⟨b42, g42⟩ : ∃ z, z = h9.size := ⟨_, rfl⟩
          rw [← g42] at A42 D42 st42
          refine own_Fin.go st42 ?_
          have g_b42 : n0 ≤ b42 := Nat.le_trans Z9 (Nat.le_of_eq g42.symm)
          have ne_b1_b42 : b1 ≠ b42 := Nat.ne_of_lt (Nat.lt_of_lt_of_le VS.lt (Nat.le_of_eq g42.symm))
          have VS_42 := VS.ext E42
          have Z42 := Nat.le_trans Z9 E42.1
          have F_b42_bytes : Fld Z h42 b42 "com/example/wardkeeper/wardkeeper/hl7/Lines" "bytes" "[B" .null := D42 (Or.inl (hw _ (List.mem_of_getElem? (i := 11) rfl))) (ty := (.array .byte)) (by decide)
          have F_b42_ends : Fld Z h42 b42 "com/example/wardkeeper/wardkeeper/hl7/Lines" "ends" "[I" .null := D42 (Or.inl (hw _ (List.mem_of_getElem? (i := 14) rfl))) (ty := (.array .int)) (by decide)
          have F_b42_count : Fld Z h42 b42 "com/example/wardkeeper/wardkeeper/hl7/Lines" "count" "I" (.int (0 : Int32)) := D42 (Or.inl (hw _ (List.mem_of_getElem? (i := 21) rfl))) (ty := .int) (by decide)
          show own_Fin _ _ _ _ _ _ _ (T42.setTop (mkF m 180 #[.val (.int va), .val (.int vb), .val (.int vc), .val (.int vd), .val (.int ve), .val (.int vf), .val (.ref b1), .val (.int oA), .val (.int nA), .val (.int oB), .val (.int nB), .val (.int oC), .val (.int nC), .val (.int (1 : Int32)), .val (.int (0 : Int32)), .val (.int (0 : Int32)), .unset, .unset] [(.ref b42)]))
          refine own_Fin.go (fun t k => XS.dup X42.here hx rfl (hb hby at_180) rfl rfl k) ?_
          show own_Fin _ _ _ _ _ _ _ (T42.setTop (mkF m 181 #[.val (.int va), .val (.int vb), .val (.int vc), .val (.int vd), .val (.int ve), .val (.int vf), .val (.ref b1), .val (.int oA), .val (.int nA), .val (.int oB), .val (.int nB), .val (.int oC), .val (.int nC), .val (.int (1 : Int32)), .val (.int (0 : Int32)), .val (.int (0 : Int32)), .unset, .unset] [(.ref b42), (.ref b42)]))
          obtain ⟨_, _, ⟨T43, L43, k43, n43⟩, -, X43, ⟨Lc43, hQ43, l43, y43, z43⟩, st43⟩ := X42.specialBack hx (y := (⟨"com/example/wardkeeper/wardkeeper/hl7/Lines", "<init>", "()V"⟩ : MethodName)) rfl hown (mvT hZ (hw _ (List.mem_of_getElem? (i := 4) rfl))) (mvT hZ (hw _ (List.mem_of_getElem? (i := 5) rfl))) (mvT hZ (hw _ (List.mem_of_getElem? (i := 6) rfl))) (by decide) (backOf (W := 1) (own_rm_ini l Z a0 hw [] b42  h42 n0 Z42 A42 F_b42_bytes F_b42_ends F_b42_count g_b42) hZ (hw _ (List.mem_of_getElem? (i := 6) rfl)) (hw _ (List.mem_of_getElem? (i := 3) rfl)) (by decide) (by decide)) (g := (mkF m 181 #[.val (.int va), .val (.int vb), .val (.int vc), .val (.int vd), .val (.int ve), .val (.int vf), .val (.ref b1), .val (.int oA), .val (.int nA), .val (.int oB), .val (.int nB), .val (.int oC), .val (.int nC), .val (.int (1 : Int32)), .val (.int (0 : Int32)), .val (.int (0 : Int32)), .unset, .unset] [(.ref b42), (.ref b42)])) rfl (by rw [hml]; rfl) (Steps.refl _) (a := b42) (argsL := []) (rest := [(.ref b42)]) (lenOf own_pd3 rfl) rfl (by show 2 * 0 + _ ≤ _; exact Nat.le_of_eq rfl) (hb hby at_181) (fun _ _ => ⟨rfl, e42, (by decide : 2 + 2 ≤ _), (by decide : 11 + 1040 ≤ _)⟩)
          dsimp only [Pt.U, Pt.locs, Pt.cells, Pt.slots] at X43 l43 y43 z43 st43 hQ43
          subst l43 y43 z43
          obtain ⟨ob43, oe43, kb43, ke43, rfl, N43q, K43q, c43_1, c43_2, c43_3, c43_4, c43_5, c43_6, c43_7, c43_8, c43_9, c43_10, c43_11⟩ := hQ43
          refine own_Fin.go (fun t k => st43.trans k) ?_
          have N43 := Fr.app N9 N43q
          have VS_43 := VS_42.keep K43q (ninS ne_b1_b42 nin0)
          have Z43 := Nat.le_trans Z42 K43q.1
          have ne_b1_ob43 : b1 ≠ ob43 := Nat.ne_of_lt (Nat.lt_of_lt_of_le VS_42.lt c43_7)
          have ne_b42_ob43 : b42 ≠ ob43 := Nat.ne_of_lt (Nat.lt_of_lt_of_le F_b42_count.lt c43_7)
          have g_ob43 : n0 ≤ ob43 := Nat.le_trans Z42 c43_7
          have ne_b1_oe43 : b1 ≠ oe43 := Nat.ne_of_lt (Nat.lt_of_lt_of_le VS_42.lt c43_8)
          have ne_b42_oe43 : b42 ≠ oe43 := Nat.ne_of_lt (Nat.lt_of_lt_of_le F_b42_count.lt c43_8)
          have g_oe43 : n0 ≤ oe43 := Nat.le_trans Z42 c43_8
          show own_Fin _ _ _ _ _ _ _ (T43.setTop (mkF m 184 #[.val (.int va), .val (.int vb), .val (.int vc), .val (.int vd), .val (.int ve), .val (.int vf), .val (.ref b1), .val (.int oA), .val (.int nA), .val (.int oB), .val (.int nB), .val (.int oC), .val (.int nC), .val (.int (1 : Int32)), .val (.int (0 : Int32)), .val (.int (0 : Int32)), .unset, .unset] [(.ref b42)]))
          refine own_Fin.go (fun t k => XS.astore X43.here hx rfl (hb hby at_184) rfl rfl (l' := #[.val (.int va), .val (.int vb), .val (.int vc), .val (.int vd), .val (.int ve), .val (.int vf), .val (.ref b1), .val (.int oA), .val (.int nA), .val (.int oB), .val (.int nB), .val (.int oC), .val (.int nC), .val (.int (1 : Int32)), .val (.int (0 : Int32)), .val (.int (0 : Int32)), .val (.ref b42), .unset]) rfl k) ?_
          show own_Fin _ _ _ _ _ _ _ (T43.setTop (mkF m 186 #[.val (.int va), .val (.int vb), .val (.int vc), .val (.int vd), .val (.int ve), .val (.int vf), .val (.ref b1), .val (.int oA), .val (.int nA), .val (.int oB), .val (.int nB), .val (.int oC), .val (.int nC), .val (.int (1 : Int32)), .val (.int (0 : Int32)), .val (.int (0 : Int32)), .val (.ref b42), .unset] []))
          refine own_Fin.go (fun t k => XS.iload X43.here hx rfl (hb hby at_186) rfl k) ?_
          show own_Fin _ _ _ _ _ _ _ (T43.setTop (mkF m 188 #[.val (.int va), .val (.int vb), .val (.int vc), .val (.int vd), .val (.int ve), .val (.int vf), .val (.ref b1), .val (.int oA), .val (.int nA), .val (.int oB), .val (.int nB), .val (.int oC), .val (.int nC), .val (.int (1 : Int32)), .val (.int (0 : Int32)), .val (.int (0 : Int32)), .val (.ref b42), .unset] [(.int (1 : Int32))]))
          refine own_Fin.go (fun t k => XS.ifNo X43.here hx rfl (hb hby at_188) rfl (by decide) k) ?_
          show own_Fin _ _ _ _ _ _ _ (T43.setTop (mkF m 191 #[.val (.int va), .val (.int vb), .val (.int vc), .val (.int vd), .val (.int ve), .val (.int vf), .val (.ref b1), .val (.int oA), .val (.int nA), .val (.int oB), .val (.int nB), .val (.int oC), .val (.int nC), .val (.int (1 : Int32)), .val (.int (0 : Int32)), .val (.int (0 : Int32)), .val (.ref b42), .unset] []))
          refine own_Fin.go (fun t k => XS.aload X43.here hx rfl (hb hby at_191) rfl rfl k) ?_
          show own_Fin _ _ _ _ _ _ _ (T43.setTop (mkF m 193 #[.val (.int va), .val (.int vb), .val (.int vc), .val (.int vd), .val (.int ve), .val (.int vf), .val (.ref b1), .val (.int oA), .val (.int nA), .val (.int oB), .val (.int nB), .val (.int oC), .val (.int nC), .val (.int (1 : Int32)), .val (.int (0 : Int32)), .val (.int (0 : Int32)), .val (.ref b42), .unset] [(.ref b42)]))
          refine own_Fin.go (fun t k => XS.aload X43.here hx rfl (hb hby at_193) rfl rfl k) ?_
          show own_Fin _ _ _ _ _ _ _ (T43.setTop (mkF m 195 #[.val (.int va), .val (.int vb), .val (.int vc), .val (.int vd), .val (.int ve), .val (.int vf), .val (.ref b1), .val (.int oA), .val (.int nA), .val (.int oB), .val (.int nB), .val (.int oC), .val (.int nC), .val (.int (1 : Int32)), .val (.int (0 : Int32)), .val (.int (0 : Int32)), .val (.ref b42), .unset] [(.ref b1), (.ref b42)]))
          refine own_Fin.go (fun t k => XS.iload X43.here hx rfl (hb hby at_195) rfl k) ?_
          show own_Fin _ _ _ _ _ _ _ (T43.setTop (mkF m 197 #[.val (.int va), .val (.int vb), .val (.int vc), .val (.int vd), .val (.int ve), .val (.int vf), .val (.ref b1), .val (.int oA), .val (.int nA), .val (.int oB), .val (.int nB), .val (.int oC), .val (.int nC), .val (.int (1 : Int32)), .val (.int (0 : Int32)), .val (.int (0 : Int32)), .val (.ref b42), .unset] [(.int oA), (.ref b1), (.ref b42)]))
          refine own_Fin.go (fun t k => XS.iload X43.here hx rfl (hb hby at_197) rfl k) ?_
          show own_Fin _ _ _ _ _ _ _ (T43.setTop (mkF m 199 #[.val (.int va), .val (.int vb), .val (.int vc), .val (.int vd), .val (.int ve), .val (.int vf), .val (.ref b1), .val (.int oA), .val (.int nA), .val (.int oB), .val (.int nB), .val (.int oC), .val (.int nC), .val (.int (1 : Int32)), .val (.int (0 : Int32)), .val (.int (0 : Int32)), .val (.ref b42), .unset] [(.int nA), (.int oA), (.ref b1), (.ref b42)]))
          obtain ⟨cq44, kq44, q44a, q44b, q44c⟩ := isOf hZ rfl c43_1
          obtain ⟨_, _, ⟨T44, L44, k44, n44⟩, -, X44, ⟨Lc44, hQ44, l44, y44, z44⟩, st44⟩ := X43.virtualBack hx (y := (⟨"com/example/wardkeeper/wardkeeper/hl7/Lines", "add", "([BII)V"⟩ : MethodName)) (z := (⟨"com/example/wardkeeper/wardkeeper/hl7/Lines", "add", "([BII)V"⟩ : MethodName)) hown (mvT hZ (hw _ (List.mem_of_getElem? (i := 22) rfl))) (mvT hZ (hw _ (List.mem_of_getElem? (i := 23) rfl))) (notFace_of_selects (args := #[]) (mvT hZ (hw _ (List.mem_of_getElem? (i := 25) rfl)))) (mvT hZ (hw _ (List.mem_of_getElem? (i := 25) rfl))) (mvT hZ (hw _ (List.mem_of_getElem? (i := 24) rfl))) (by decide) (backOf (W := 0) (own_rm_add0 l Z a0 hw [] b42 b1 oA nA ob43 kb43 k1 (List.replicate 1024 (0 : Int32)) LS oe43 ke43 (0 : Int32) (0 : Int32) (0 : Int32) T43.heap n0 Z43 c43_1 c43_2 c43_3 c43_4 c43_5 c43_6 VS_43 g_b42 g_ob43 g_oe43 c43_9 c43_10 c43_11 ne_b1_b42 ne_b1_ob43 ne_b1_oe43 hJ138.1 (⟨by decide, by decide⟩ : own_ok 100 0) (by rw [List.length_replicate])) hZ (hw _ (List.mem_of_getElem? (i := 26) rfl)) (hw _ (List.mem_of_getElem? (i := 3) rfl)) (by decide) (by decide)) q44a q44c (g := (mkF m 199 #[.val (.int va), .val (.int vb), .val (.int vc), .val (.int vd), .val (.int ve), .val (.int vf), .val (.ref b1), .val (.int oA), .val (.int nA), .val (.int oB), .val (.int nB), .val (.int oC), .val (.int nC), .val (.int (1 : Int32)), .val (.int (0 : Int32)), .val (.int (0 : Int32)), .val (.ref b42), .unset] [(.int nA), (.int oA), (.ref b1), (.ref b42)])) rfl (by rw [hml]; rfl) (Steps.refl _) (argsL := [(.ref b1), (.int oA), (.int nA)]) (rest := []) (lenOf own_pd4 rfl) rfl (by show 2 * 0 + _ ≤ _; exact Nat.le_of_eq rfl) (hb hby at_199) (fun _ _ => ⟨rfl, rfl, (by decide : 4 + 0 ≤ _), (by decide : 1051 + 0 ≤ _)⟩)
          dsimp only [Pt.U, Pt.locs, Pt.cells, Pt.slots] at X44 l44 y44 z44 st44 hQ44
          subst l44 y44 z44
          obtain ⟨rfl, N44q, K44q, c44_1, c44_2, c44_3, c44_4, c44_5, c44_6⟩ := hQ44
          refine own_Fin.go (fun t k => st44.trans k) ?_
          have N44 := Fr.app N43 N44q
          have VS_44 := VS_43.keep K44q (ninS ne_b1_b42 (ninS ne_b1_ob43 (ninS ne_b1_oe43 nin0)))
          have Z44 := Nat.le_trans Z43 K44q.1
          have hO44 := own_next (⟨by decide, by decide⟩ : own_ok 0 0) (by decide) hJ138.1
          have hT44 := own_cpTake (LB := (List.replicate 1024 (0 : Int32))) (LS := LS) (S := (0 : Int32)) (o := oA) (n := nA) (by rw [List.length_replicate]) (own_up (⟨by decide, by decide⟩ : own_ok 0 0) (by decide)) hJ138.1
          rw [← hO44.2] at hT44
          have hL44 := own_cpLen (LB := (List.replicate 1024 (0 : Int32))) (LS := LS) (S := (0 : Int32)) (o := oA) (n := nA) (by rw [List.length_replicate]) (own_up (⟨by decide, by decide⟩ : own_ok 0 0) (by decide)) hJ138.1
          show own_Fin _ _ _ _ _ _ _ (T44.setTop (mkF m 202 #[.val (.int va), .val (.int vb), .val (.int vc), .val (.int vd), .val (.int ve), .val (.int vf), .val (.ref b1), .val (.int oA), .val (.int nA), .val (.int oB), .val (.int nB), .val (.int oC), .val (.int nC), .val (.int (1 : Int32)), .val (.int (0 : Int32)), .val (.int (0 : Int32)), .val (.ref b42), .unset] []))
          refine own_Fin.go (fun t k => XS.iload X44.here hx rfl (hb hby at_202) rfl k) ?_
          show own_Fin _ _ _ _ _ _ _ (T44.setTop (mkF m 204 #[.val (.int va), .val (.int vb), .val (.int vc), .val (.int vd), .val (.int ve), .val (.int vf), .val (.ref b1), .val (.int oA), .val (.int nA), .val (.int oB), .val (.int nB), .val (.int oC), .val (.int nC), .val (.int (1 : Int32)), .val (.int (0 : Int32)), .val (.int (0 : Int32)), .val (.ref b42), .unset] [(.int (0 : Int32))]))
          refine own_Fin.go (fun t k => XS.ifYes X44.here hx rfl (pc0 := 204) (pc' := 212) rfl (hb hby at_204) rfl (by decide) (by decide) (by decide) k) ?_
          show own_Fin _ _ _ _ _ _ _ (T44.setTop (mkF m 212 #[.val (.int va), .val (.int vb), .val (.int vc), .val (.int vd), .val (.int ve), .val (.int vf), .val (.ref b1), .val (.int oA), .val (.int nA), .val (.int oB), .val (.int nB), .val (.int oC), .val (.int nC), .val (.int (1 : Int32)), .val (.int (0 : Int32)), .val (.int (0 : Int32)), .val (.ref b42), .unset] []))
          refine own_Fin.go (fun t k => XS.aload X44.here hx rfl (hb hby at_212) rfl rfl k) ?_
          show own_Fin _ _ _ _ _ _ _ (T44.setTop (mkF m 214 #[.val (.int va), .val (.int vb), .val (.int vc), .val (.int vd), .val (.int ve), .val (.int vf), .val (.ref b1), .val (.int oA), .val (.int nA), .val (.int oB), .val (.int nB), .val (.int oC), .val (.int nC), .val (.int (1 : Int32)), .val (.int (0 : Int32)), .val (.int (0 : Int32)), .val (.ref b42), .unset] [(.ref b42)]))
          refine own_Fin.go (fun t k => XS.aload X44.here hx rfl (hb hby at_214) rfl rfl k) ?_
          show own_Fin _ _ _ _ _ _ _ (T44.setTop (mkF m 216 #[.val (.int va), .val (.int vb), .val (.int vc), .val (.int vd), .val (.int ve), .val (.int vf), .val (.ref b1), .val (.int oA), .val (.int nA), .val (.int oB), .val (.int nB), .val (.int oC), .val (.int nC), .val (.int (1 : Int32)), .val (.int (0 : Int32)), .val (.int (0 : Int32)), .val (.ref b42), .unset] [(.ref b1), (.ref b42)]))
          refine own_Fin.go (fun t k => XS.iload X44.here hx rfl (hb hby at_216) rfl k) ?_
          show own_Fin _ _ _ _ _ _ _ (T44.setTop (mkF m 218 #[.val (.int va), .val (.int vb), .val (.int vc), .val (.int vd), .val (.int ve), .val (.int vf), .val (.ref b1), .val (.int oA), .val (.int nA), .val (.int oB), .val (.int nB), .val (.int oC), .val (.int nC), .val (.int (1 : Int32)), .val (.int (0 : Int32)), .val (.int (0 : Int32)), .val (.ref b42), .unset] [(.int oB), (.ref b1), (.ref b42)]))
          refine own_Fin.go (fun t k => XS.iload X44.here hx rfl (hb hby at_218) rfl k) ?_
          show own_Fin _ _ _ _ _ _ _ (T44.setTop (mkF m 220 #[.val (.int va), .val (.int vb), .val (.int vc), .val (.int vd), .val (.int ve), .val (.int vf), .val (.ref b1), .val (.int oA), .val (.int nA), .val (.int oB), .val (.int nB), .val (.int oC), .val (.int nC), .val (.int (1 : Int32)), .val (.int (0 : Int32)), .val (.int (0 : Int32)), .val (.ref b42), .unset] [(.int nB), (.int oB), (.ref b1), (.ref b42)]))
          obtain ⟨cq45, kq45, q45a, q45b, q45c⟩ := isOf hZ rfl c44_1
          obtain ⟨_, _, ⟨T45, L45, k45, n45⟩, -, X45, ⟨Lc45, hQ45, l45, y45, z45⟩, st45⟩ := X44.virtualBack hx (y := (⟨"com/example/wardkeeper/wardkeeper/hl7/Lines", "add", "([BII)V"⟩ : MethodName)) (z := (⟨"com/example/wardkeeper/wardkeeper/hl7/Lines", "add", "([BII)V"⟩ : MethodName)) hown (mvT hZ (hw _ (List.mem_of_getElem? (i := 22) rfl))) (mvT hZ (hw _ (List.mem_of_getElem? (i := 23) rfl))) (notFace_of_selects (args := #[]) (mvT hZ (hw _ (List.mem_of_getElem? (i := 25) rfl)))) (mvT hZ (hw _ (List.mem_of_getElem? (i := 25) rfl))) (mvT hZ (hw _ (List.mem_of_getElem? (i := 24) rfl))) (by decide) (backOf (W := 0) (own_rm_add1 l Z a0 hw [] b42 b1 oB nB ob43 kb43 k1 (own_cp (List.replicate 1024 (0 : Int32)) LS (0 : Int32) oA nA) LS oe43 ke43 ((0 : Int32) + nA) (0 : Int32) (0 : Int32) T44.heap n0 Z44 c44_1 c44_2 c44_3 c44_4 c44_5 c44_6 VS_44 g_b42 g_ob43 g_oe43 c43_9 c43_10 c43_11 ne_b1_b42 ne_b1_ob43 ne_b1_oe43 hJ138.2.1 (own_up hO44.1 (by decide)) hL44) hZ (hw _ (List.mem_of_getElem? (i := 26) rfl)) (hw _ (List.mem_of_getElem? (i := 3) rfl)) (by decide) (by decide)) q45a q45c (g := (mkF m 220 #[.val (.int va), .val (.int vb), .val (.int vc), .val (.int vd), .val (.int ve), .val (.int vf), .val (.ref b1), .val (.int oA), .val (.int nA), .val (.int oB), .val (.int nB), .val (.int oC), .val (.int nC), .val (.int (1 : Int32)), .val (.int (0 : Int32)), .val (.int (0 : Int32)), .val (.ref b42), .unset] [(.int nB), (.int oB), (.ref b1), (.ref b42)])) rfl (by rw [hml]; rfl) (Steps.refl _) (argsL := [(.ref b1), (.int oB), (.int nB)]) (rest := []) (lenOf own_pd4 rfl) rfl (by show 2 * 0 + _ ≤ _; exact Nat.le_of_eq rfl) (hb hby at_220) (fun _ _ => ⟨rfl, rfl, (by decide : 4 + 0 ≤ _), (by decide : 1051 + 0 ≤ _)⟩)
          dsimp only [Pt.U, Pt.locs, Pt.cells, Pt.slots] at X45 l45 y45 z45 st45 hQ45
          subst l45 y45 z45
          obtain ⟨rfl, N45q, K45q, c45_1, c45_2, c45_3, c45_4, c45_5, c45_6⟩ := hQ45
          refine own_Fin.go (fun t k => st45.trans k) ?_
          have N45 := Fr.app N44 N45q
          have VS_45 := VS_44.keep K45q (ninS ne_b1_b42 (ninS ne_b1_ob43 (ninS ne_b1_oe43 nin0)))
          have Z45 := Nat.le_trans Z44 K45q.1
          have hO45 := own_next hO44.1 (by decide) hJ138.2.1
          have hT45 := own_cpTake (LB := (own_cp (List.replicate 1024 (0 : Int32)) LS (0 : Int32) oA nA)) (LS := LS) (S := ((0 : Int32) + nA)) (o := oB) (n := nB) hL44 (own_up hO44.1 (by decide)) hJ138.2.1
          rw [← hO45.2, hT44] at hT45
          have hL45 := own_cpLen (LB := (own_cp (List.replicate 1024 (0 : Int32)) LS (0 : Int32) oA nA)) (LS := LS) (S := ((0 : Int32) + nA)) (o := oB) (n := nB) hL44 (own_up hO44.1 (by decide)) hJ138.2.1
          show own_Fin _ _ _ _ _ _ _ (T45.setTop (mkF m 223 #[.val (.int va), .val (.int vb), .val (.int vc), .val (.int vd), .val (.int ve), .val (.int vf), .val (.ref b1), .val (.int oA), .val (.int nA), .val (.int oB), .val (.int nB), .val (.int oC), .val (.int nC), .val (.int (1 : Int32)), .val (.int (0 : Int32)), .val (.int (0 : Int32)), .val (.ref b42), .unset] []))
          refine own_Fin.go (fun t k => XS.iload X45.here hx rfl (hb hby at_223) rfl k) ?_
          show own_Fin _ _ _ _ _ _ _ (T45.setTop (mkF m 225 #[.val (.int va), .val (.int vb), .val (.int vc), .val (.int vd), .val (.int ve), .val (.int vf), .val (.ref b1), .val (.int oA), .val (.int nA), .val (.int oB), .val (.int nB), .val (.int oC), .val (.int nC), .val (.int (1 : Int32)), .val (.int (0 : Int32)), .val (.int (0 : Int32)), .val (.ref b42), .unset] [(.int (0 : Int32))]))
          refine own_Fin.go (fun t k => XS.ifYes X45.here hx rfl (pc0 := 225) (pc' := 239) rfl (hb hby at_225) rfl (by decide) (by decide) (by decide) k) ?_
          show own_Fin _ _ _ _ _ _ _ (T45.setTop (mkF m 239 #[.val (.int va), .val (.int vb), .val (.int vc), .val (.int vd), .val (.int ve), .val (.int vf), .val (.ref b1), .val (.int oA), .val (.int nA), .val (.int oB), .val (.int nB), .val (.int oC), .val (.int nC), .val (.int (1 : Int32)), .val (.int (0 : Int32)), .val (.int (0 : Int32)), .val (.ref b42), .unset] []))
          refine own_Fin.go (fun t k => XS.iload X45.here hx rfl (hb hby at_239) rfl k) ?_
          show own_Fin _ _ _ _ _ _ _ (T45.setTop (mkF m 241 #[.val (.int va), .val (.int vb), .val (.int vc), .val (.int vd), .val (.int ve), .val (.int vf), .val (.ref b1), .val (.int oA), .val (.int nA), .val (.int oB), .val (.int nB), .val (.int oC), .val (.int nC), .val (.int (1 : Int32)), .val (.int (0 : Int32)), .val (.int (0 : Int32)), .val (.ref b42), .unset] [(.int (1 : Int32))]))
          refine own_Fin.go (fun t k => XS.ifNo X45.here hx rfl (hb hby at_241) rfl (by decide) k) ?_
          show own_Fin _ _ _ _ _ _ _ (T45.setTop (mkF m 244 #[.val (.int va), .val (.int vb), .val (.int vc), .val (.int vd), .val (.int ve), .val (.int vf), .val (.ref b1), .val (.int oA), .val (.int nA), .val (.int oB), .val (.int nB), .val (.int oC), .val (.int nC), .val (.int (1 : Int32)), .val (.int (0 : Int32)), .val (.int (0 : Int32)), .val (.ref b42), .unset] []))
          refine own_Fin.go (fun t k => XS.iload X45.here hx rfl (hb hby at_244) rfl k) ?_
          show own_Fin _ _ _ _ _ _ _ (T45.setTop (mkF m 246 #[.val (.int va), .val (.int vb), .val (.int vc), .val (.int vd), .val (.int ve), .val (.int vf), .val (.ref b1), .val (.int oA), .val (.int nA), .val (.int oB), .val (.int nB), .val (.int oC), .val (.int nC), .val (.int (1 : Int32)), .val (.int (0 : Int32)), .val (.int (0 : Int32)), .val (.ref b42), .unset] [(.int (0 : Int32))]))
          refine own_Fin.go (fun t k => XS.ifNo X45.here hx rfl (hb hby at_246) rfl (by decide) k) ?_
          show own_Fin _ _ _ _ _ _ _ (T45.setTop (mkF m 249 #[.val (.int va), .val (.int vb), .val (.int vc), .val (.int vd), .val (.int ve), .val (.int vf), .val (.ref b1), .val (.int oA), .val (.int nA), .val (.int oB), .val (.int nB), .val (.int oC), .val (.int nC), .val (.int (1 : Int32)), .val (.int (0 : Int32)), .val (.int (0 : Int32)), .val (.ref b42), .unset] []))
          refine own_Fin.go (fun t k => XS.aload X45.here hx rfl (hb hby at_249) rfl rfl k) ?_
          show own_Fin _ _ _ _ _ _ _ (T45.setTop (mkF m 251 #[.val (.int va), .val (.int vb), .val (.int vc), .val (.int vd), .val (.int ve), .val (.int vf), .val (.ref b1), .val (.int oA), .val (.int nA), .val (.int oB), .val (.int nB), .val (.int oC), .val (.int nC), .val (.int (1 : Int32)), .val (.int (0 : Int32)), .val (.int (0 : Int32)), .val (.ref b42), .unset] [(.ref b1)]))
          refine own_Fin.go (fun t k => XS.iload X45.here hx rfl (hb hby at_251) rfl k) ?_
          show own_Fin _ _ _ _ _ _ _ (T45.setTop (mkF m 253 #[.val (.int va), .val (.int vb), .val (.int vc), .val (.int vd), .val (.int ve), .val (.int vf), .val (.ref b1), .val (.int oA), .val (.int nA), .val (.int oB), .val (.int nB), .val (.int oC), .val (.int nC), .val (.int (1 : Int32)), .val (.int (0 : Int32)), .val (.int (0 : Int32)), .val (.ref b42), .unset] [(.int oA), (.ref b1)]))
          refine own_Fin.go (fun t k => XS.iload X45.here hx rfl (hb hby at_253) rfl k) ?_
          show own_Fin _ _ _ _ _ _ _ (T45.setTop (mkF m 255 #[.val (.int va), .val (.int vb), .val (.int vc), .val (.int vd), .val (.int ve), .val (.int vf), .val (.ref b1), .val (.int oA), .val (.int nA), .val (.int oB), .val (.int nB), .val (.int oC), .val (.int nC), .val (.int (1 : Int32)), .val (.int (0 : Int32)), .val (.int (0 : Int32)), .val (.ref b42), .unset] [(.int nA), (.int oA), (.ref b1)]))
          obtain ⟨_, _, ⟨T46, L46, k46, n46⟩, -, X46, ⟨Lc46, hQ46, l46, y46, z46⟩, st46⟩ := Jvm.LawKit.callS X45 hx (y := (⟨"com/example/wardkeeper/wardkeeper/hl7/LinesAllAsciiPinLaw", "bad", "([BII)Z"⟩ : MethodName)) hown (mvT hZ (hw _ (List.mem_of_getElem? (i := 35) rfl))) (mvT hZ (hw _ (List.mem_of_getElem? (i := 36) rfl))) (mvT hZ (hw _ (List.mem_of_getElem? (i := 37) rfl))) (mvT hZ (hw _ (List.mem_of_getElem? (i := 38) rfl))) (by decide) (backOf (W := 0) (own_rm_bad l Z a0 hw [] b1 oA nA k1 LS T45.heap n0 Z45 VS_45) hZ (hw _ (List.mem_of_getElem? (i := 38) rfl)) (hw _ (List.mem_of_getElem? (i := 37) rfl)) (by decide) (by decide)) (g := (mkF m 255 #[.val (.int va), .val (.int vb), .val (.int vc), .val (.int vd), .val (.int ve), .val (.int vf), .val (.ref b1), .val (.int oA), .val (.int nA), .val (.int oB), .val (.int nB), .val (.int oC), .val (.int nC), .val (.int (1 : Int32)), .val (.int (0 : Int32)), .val (.int (0 : Int32)), .val (.ref b42), .unset] [(.int nA), (.int oA), (.ref b1)])) rfl (by rw [hml]; rfl) (argsL := [(.ref b1), (.int oA), (.int nA)]) (rest := []) (lenOf own_pd5 rfl) rfl (by show 2 * 0 + _ ≤ _; exact Nat.le_of_eq rfl) (hb hby at_255) (fun _ _ => ⟨rfl, rfl, (by decide : 4 + 0 ≤ _), (by decide : 1051 + 0 ≤ _)⟩)
          dsimp only [Pt.U, Pt.locs, Pt.cells, Pt.slots] at X46 l46 y46 z46 st46 hQ46
          subst l46 y46 z46
          obtain ⟨rfl, N46q, e46⟩ := hQ46
          refine own_Fin.go (fun t k => st46 t k) ?_
          have N46 := Fr.app N45 N46q
          show own_Fin _ _ _ _ _ _ _ (T46.setTop (mkF m 258 #[.val (.int va), .val (.int vb), .val (.int vc), .val (.int vd), .val (.int ve), .val (.int vf), .val (.ref b1), .val (.int oA), .val (.int nA), .val (.int oB), .val (.int nB), .val (.int oC), .val (.int nC), .val (.int (1 : Int32)), .val (.int (0 : Int32)), .val (.int (0 : Int32)), .val (.ref b42), .unset] [(.int (own_bad LS oA nA))]))
          by_cases hc258 : (own_bad LS oA nA) = (0 : Int32)
          · refine own_Fin.go (fun t k => XS.ifNo X46.here hx rfl (hb hby at_258) rfl (Jvm.Free.XT.i0_ne_f hc258) k) ?_
            show own_Fin _ _ _ _ _ _ _ (T46.setTop (mkF m 261 #[.val (.int va), .val (.int vb), .val (.int vc), .val (.int vd), .val (.int ve), .val (.int vf), .val (.ref b1), .val (.int oA), .val (.int nA), .val (.int oB), .val (.int nB), .val (.int oC), .val (.int nC), .val (.int (1 : Int32)), .val (.int (0 : Int32)), .val (.int (0 : Int32)), .val (.ref b42), .unset] []))
            refine own_Fin.go (fun t k => XS.aload X46.here hx rfl (hb hby at_261) rfl rfl k) ?_
            show own_Fin _ _ _ _ _ _ _ (T46.setTop (mkF m 263 #[.val (.int va), .val (.int vb), .val (.int vc), .val (.int vd), .val (.int ve), .val (.int vf), .val (.ref b1), .val (.int oA), .val (.int nA), .val (.int oB), .val (.int nB), .val (.int oC), .val (.int nC), .val (.int (1 : Int32)), .val (.int (0 : Int32)), .val (.int (0 : Int32)), .val (.ref b42), .unset] [(.ref b1)]))
            refine own_Fin.go (fun t k => XS.iload X46.here hx rfl (hb hby at_263) rfl k) ?_
            show own_Fin _ _ _ _ _ _ _ (T46.setTop (mkF m 265 #[.val (.int va), .val (.int vb), .val (.int vc), .val (.int vd), .val (.int ve), .val (.int vf), .val (.ref b1), .val (.int oA), .val (.int nA), .val (.int oB), .val (.int nB), .val (.int oC), .val (.int nC), .val (.int (1 : Int32)), .val (.int (0 : Int32)), .val (.int (0 : Int32)), .val (.ref b42), .unset] [(.int oB), (.ref b1)]))
            refine own_Fin.go (fun t k => XS.iload X46.here hx rfl (hb hby at_265) rfl k) ?_
            show own_Fin _ _ _ _ _ _ _ (T46.setTop (mkF m 267 #[.val (.int va), .val (.int vb), .val (.int vc), .val (.int vd), .val (.int ve), .val (.int vf), .val (.ref b1), .val (.int oA), .val (.int nA), .val (.int oB), .val (.int nB), .val (.int oC), .val (.int nC), .val (.int (1 : Int32)), .val (.int (0 : Int32)), .val (.int (0 : Int32)), .val (.ref b42), .unset] [(.int nB), (.int oB), (.ref b1)]))
            obtain ⟨_, _, ⟨T47, L47, k47, n47⟩, -, X47, ⟨Lc47, hQ47, l47, y47, z47⟩, st47⟩ := Jvm.LawKit.callS X46 hx (y := (⟨"com/example/wardkeeper/wardkeeper/hl7/LinesAllAsciiPinLaw", "bad", "([BII)Z"⟩ : MethodName)) hown (mvT hZ (hw _ (List.mem_of_getElem? (i := 35) rfl))) (mvT hZ (hw _ (List.mem_of_getElem? (i := 36) rfl))) (mvT hZ (hw _ (List.mem_of_getElem? (i := 37) rfl))) (mvT hZ (hw _ (List.mem_of_getElem? (i := 38) rfl))) (by decide) (backOf (W := 0) (own_rm_bad l Z a0 hw [] b1 oB nB k1 LS T45.heap n0 Z45 VS_45) hZ (hw _ (List.mem_of_getElem? (i := 38) rfl)) (hw _ (List.mem_of_getElem? (i := 37) rfl)) (by decide) (by decide)) (g := (mkF m 267 #[.val (.int va), .val (.int vb), .val (.int vc), .val (.int vd), .val (.int ve), .val (.int vf), .val (.ref b1), .val (.int oA), .val (.int nA), .val (.int oB), .val (.int nB), .val (.int oC), .val (.int nC), .val (.int (1 : Int32)), .val (.int (0 : Int32)), .val (.int (0 : Int32)), .val (.ref b42), .unset] [(.int nB), (.int oB), (.ref b1)])) rfl (by rw [hml]; rfl) (argsL := [(.ref b1), (.int oB), (.int nB)]) (rest := []) (lenOf own_pd5 rfl) rfl (by show 2 * 0 + _ ≤ _; exact Nat.le_of_eq rfl) (hb hby at_267) (fun _ _ => ⟨rfl, e46, (by decide : 4 + 0 ≤ _), (by decide : 1051 + 0 ≤ _)⟩)
            dsimp only [Pt.U, Pt.locs, Pt.cells, Pt.slots] at X47 l47 y47 z47 st47 hQ47
            subst l47 y47 z47
            obtain ⟨rfl, N47q, e47⟩ := hQ47
            refine own_Fin.go (fun t k => st47 t k) ?_
            have N47 := Fr.app N46 N47q
            show own_Fin _ _ _ _ _ _ _ (T47.setTop (mkF m 270 #[.val (.int va), .val (.int vb), .val (.int vc), .val (.int vd), .val (.int ve), .val (.int vf), .val (.ref b1), .val (.int oA), .val (.int nA), .val (.int oB), .val (.int nB), .val (.int oC), .val (.int nC), .val (.int (1 : Int32)), .val (.int (0 : Int32)), .val (.int (0 : Int32)), .val (.ref b42), .unset] [(.int (own_bad LS oB nB))]))
            by_cases hc270 : (own_bad LS oB nB) = (0 : Int32)
            · refine own_Fin.go (fun t k => XS.ifNo X47.here hx rfl (hb hby at_270) rfl (Jvm.Free.XT.i0_ne_f hc270) k) ?_
              show own_Fin _ _ _ _ _ _ _ (T47.setTop (mkF m 273 #[.val (.int va), .val (.int vb), .val (.int vc), .val (.int vd), .val (.int ve), .val (.int vf), .val (.ref b1), .val (.int oA), .val (.int nA), .val (.int oB), .val (.int nB), .val (.int oC), .val (.int nC), .val (.int (1 : Int32)), .val (.int (0 : Int32)), .val (.int (0 : Int32)), .val (.ref b42), .unset] []))
              refine own_Fin.go (fun t k => XS.iload X47.here hx rfl (hb hby at_273) rfl k) ?_
              show own_Fin _ _ _ _ _ _ _ (T47.setTop (mkF m 275 #[.val (.int va), .val (.int vb), .val (.int vc), .val (.int vd), .val (.int ve), .val (.int vf), .val (.ref b1), .val (.int oA), .val (.int nA), .val (.int oB), .val (.int nB), .val (.int oC), .val (.int nC), .val (.int (1 : Int32)), .val (.int (0 : Int32)), .val (.int (0 : Int32)), .val (.ref b42), .unset] [(.int (0 : Int32))]))
              refine own_Fin.go (fun t k => XS.ifYes X47.here hx rfl (pc0 := 275) (pc' := 290) rfl (hb hby at_275) rfl (by decide) (by decide) (by decide) k) ?_
              show own_Fin _ _ _ _ _ _ _ (T47.setTop (mkF m 290 #[.val (.int va), .val (.int vb), .val (.int vc), .val (.int vd), .val (.int ve), .val (.int vf), .val (.ref b1), .val (.int oA), .val (.int nA), .val (.int oB), .val (.int nB), .val (.int oC), .val (.int nC), .val (.int (1 : Int32)), .val (.int (0 : Int32)), .val (.int (0 : Int32)), .val (.ref b42), .unset] []))
              refine own_Fin.go (fun t k => XS.iconst X47.here hx rfl (hb hby at_290) k) ?_
              show own_Fin _ _ _ _ _ _ _ (T47.setTop (mkF m 291 #[.val (.int va), .val (.int vb), .val (.int vc), .val (.int vd), .val (.int ve), .val (.int vf), .val (.ref b1), .val (.int oA), .val (.int nA), .val (.int oB), .val (.int nB), .val (.int oC), .val (.int nC), .val (.int (1 : Int32)), .val (.int (0 : Int32)), .val (.int (0 : Int32)), .val (.ref b42), .unset] [(.int (1 : Int32))]))
              refine own_Fin.go (fun t k => XS.goto X47.here hx rfl (pc0 := 291) (pc' := 295) rfl (hb hby at_291) (by decide) (by decide) k) ?_
              show own_Fin _ _ _ _ _ _ _ (T47.setTop (mkF m 295 #[.val (.int va), .val (.int vb), .val (.int vc), .val (.int vd), .val (.int ve), .val (.int vf), .val (.ref b1), .val (.int oA), .val (.int nA), .val (.int oB), .val (.int nB), .val (.int oC), .val (.int nC), .val (.int (1 : Int32)), .val (.int (0 : Int32)), .val (.int (0 : Int32)), .val (.ref b42), .unset] [(.int (1 : Int32))]))
              refine own_Fin.go (fun t k => XS.istore X47.here hx rfl (hb hby at_295) rfl (l' := #[.val (.int va), .val (.int vb), .val (.int vc), .val (.int vd), .val (.int ve), .val (.int vf), .val (.ref b1), .val (.int oA), .val (.int nA), .val (.int oB), .val (.int nB), .val (.int oC), .val (.int nC), .val (.int (1 : Int32)), .val (.int (0 : Int32)), .val (.int (0 : Int32)), .val (.ref b42), .val (.int (1 : Int32))]) rfl k) ?_
              show own_Fin _ _ _ _ _ _ _ (T47.setTop (mkF m 297 #[.val (.int va), .val (.int vb), .val (.int vc), .val (.int vd), .val (.int ve), .val (.int vf), .val (.ref b1), .val (.int oA), .val (.int nA), .val (.int oB), .val (.int nB), .val (.int oC), .val (.int nC), .val (.int (1 : Int32)), .val (.int (0 : Int32)), .val (.int (0 : Int32)), .val (.ref b42), .val (.int (1 : Int32))] []))
              refine own_Fin.go (fun t k => XS.aload X47.here hx rfl (hb hby at_297) rfl rfl k) ?_
              show own_Fin _ _ _ _ _ _ _ (T47.setTop (mkF m 299 #[.val (.int va), .val (.int vb), .val (.int vc), .val (.int vd), .val (.int ve), .val (.int vf), .val (.ref b1), .val (.int oA), .val (.int nA), .val (.int oB), .val (.int nB), .val (.int oC), .val (.int nC), .val (.int (1 : Int32)), .val (.int (0 : Int32)), .val (.int (0 : Int32)), .val (.ref b42), .val (.int (1 : Int32))] [(.ref b42)]))
              obtain ⟨cq48, kq48, q48a, q48b, q48c⟩ := isOf hZ e47 c45_1
              obtain ⟨_, _, ⟨T48, L48, k48, n48⟩, -, X48, ⟨Lc48, hQ48, l48, y48, z48⟩, st48⟩ := X47.virtualBack hx (y := (⟨"com/example/wardkeeper/wardkeeper/hl7/Lines", "allAscii", "()Z"⟩ : MethodName)) (z := (⟨"com/example/wardkeeper/wardkeeper/hl7/Lines", "allAscii", "()Z"⟩ : MethodName)) hown (mvT hZ (hw _ (List.mem_of_getElem? (i := 42) rfl))) (mvT hZ (hw _ (List.mem_of_getElem? (i := 43) rfl))) (notFace_of_selects (args := #[]) (mvT hZ (hw _ (List.mem_of_getElem? (i := 45) rfl)))) (mvT hZ (hw _ (List.mem_of_getElem? (i := 45) rfl))) (mvT hZ (hw _ (List.mem_of_getElem? (i := 44) rfl))) (by decide) (backOf (W := 0) (own_rm_aa2 l Z a0 hw [] b42 ob43 kb43 (own_cp (own_cp (List.replicate 1024 (0 : Int32)) LS (0 : Int32) oA nA) LS ((0 : Int32) + nA) oB nB) oe43 ke43 ((0 : Int32) + nA) (((0 : Int32) + nA) + nB) (0 : Int32) T45.heap n0 Z45 c45_1 c45_2 c45_3 c45_4 c45_5 c45_6 (own_up hO45.1 (by decide)) hL45) hZ (hw _ (List.mem_of_getElem? (i := 46) rfl)) (hw _ (List.mem_of_getElem? (i := 3) rfl)) (by decide) (by decide)) q48a q48c (g := (mkF m 299 #[.val (.int va), .val (.int vb), .val (.int vc), .val (.int vd), .val (.int ve), .val (.int vf), .val (.ref b1), .val (.int oA), .val (.int nA), .val (.int oB), .val (.int nB), .val (.int oC), .val (.int nC), .val (.int (1 : Int32)), .val (.int (0 : Int32)), .val (.int (0 : Int32)), .val (.ref b42), .val (.int (1 : Int32))] [(.ref b42)])) rfl (by rw [hml]; rfl) (Steps.refl _) (argsL := []) (rest := []) (lenOf own_pd6 rfl) rfl (by show 2 * 0 + _ ≤ _; exact Nat.le_of_eq rfl) (hb hby at_299) (fun _ _ => ⟨rfl, e47, (by decide : 4 + 0 ≤ _), (by decide : 1051 + 0 ≤ _)⟩)
              dsimp only [Pt.U, Pt.locs, Pt.cells, Pt.slots] at X48 l48 y48 z48 st48 hQ48
              subst l48 y48 z48
              obtain ⟨rfl, N48q, e48⟩ := hQ48
              refine own_Fin.go (fun t k => st48.trans k) ?_
              have N48 := Fr.app N47 N48q
              show own_Fin _ _ _ _ _ _ _ (T48.setTop (mkF m 302 #[.val (.int va), .val (.int vb), .val (.int vc), .val (.int vd), .val (.int ve), .val (.int vf), .val (.ref b1), .val (.int oA), .val (.int nA), .val (.int oB), .val (.int nB), .val (.int oC), .val (.int nC), .val (.int (1 : Int32)), .val (.int (0 : Int32)), .val (.int (0 : Int32)), .val (.ref b42), .val (.int (1 : Int32))] [(.int (own_all (own_cp (own_cp (List.replicate 1024 (0 : Int32)) LS (0 : Int32) oA nA) LS ((0 : Int32) + nA) oB nB) (((0 : Int32) + nA) + nB)))]))
              refine own_Fin.go (fun t k => XS.iload X48.here hx rfl (hb hby at_302) rfl k) ?_
              show own_Fin _ _ _ _ _ _ _ (T48.setTop (mkF m 304 #[.val (.int va), .val (.int vb), .val (.int vc), .val (.int vd), .val (.int ve), .val (.int vf), .val (.ref b1), .val (.int oA), .val (.int nA), .val (.int oB), .val (.int nB), .val (.int oC), .val (.int nC), .val (.int (1 : Int32)), .val (.int (0 : Int32)), .val (.int (0 : Int32)), .val (.ref b42), .val (.int (1 : Int32))] [(.int (1 : Int32)), (.int (own_all (own_cp (own_cp (List.replicate 1024 (0 : Int32)) LS (0 : Int32) oA nA) LS ((0 : Int32) + nA) oB nB) (((0 : Int32) + nA) + nB)))]))
              have hc304 : (own_all (own_cp (own_cp (List.replicate 1024 (0 : Int32)) LS (0 : Int32) oA nA) LS ((0 : Int32) + nA) oB nB) (((0 : Int32) + nA) + nB)) = (1 : Int32) := own_all1 hT45 (own_app (own_app own_nil (own_good hJ138.1 hc258)) (own_good hJ138.2.1 hc270))
              refine own_Fin.go (fun t k => XS.icmpNo X48.here hx rfl (hb hby at_304) rfl (Jvm.Free.XT.ii_ne_f hc304) k) ?_
              show own_Fin _ _ _ _ _ _ _ (T48.setTop (mkF m 307 #[.val (.int va), .val (.int vb), .val (.int vc), .val (.int vd), .val (.int ve), .val (.int vf), .val (.ref b1), .val (.int oA), .val (.int nA), .val (.int oB), .val (.int nB), .val (.int oC), .val (.int nC), .val (.int (1 : Int32)), .val (.int (0 : Int32)), .val (.int (0 : Int32)), .val (.ref b42), .val (.int (1 : Int32))] []))
              refine own_Fin.go (fun t k => XS.iconst X48.here hx rfl (hb hby at_307) k) ?_
              show own_Fin _ _ _ _ _ _ _ (T48.setTop (mkF m 308 #[.val (.int va), .val (.int vb), .val (.int vc), .val (.int vd), .val (.int ve), .val (.int vf), .val (.ref b1), .val (.int oA), .val (.int nA), .val (.int oB), .val (.int nB), .val (.int oC), .val (.int nC), .val (.int (1 : Int32)), .val (.int (0 : Int32)), .val (.int (0 : Int32)), .val (.ref b42), .val (.int (1 : Int32))] [(.int (1 : Int32))]))
              refine own_Fin.go (fun t k => XS.goto X48.here hx rfl (pc0 := 308) (pc' := 312) rfl (hb hby at_308) (by decide) (by decide) k) ?_
              show own_Fin _ _ _ _ _ _ _ (T48.setTop (mkF m 312 #[.val (.int va), .val (.int vb), .val (.int vc), .val (.int vd), .val (.int ve), .val (.int vf), .val (.ref b1), .val (.int oA), .val (.int nA), .val (.int oB), .val (.int nB), .val (.int oC), .val (.int nC), .val (.int (1 : Int32)), .val (.int (0 : Int32)), .val (.int (0 : Int32)), .val (.ref b42), .val (.int (1 : Int32))] [(.int (1 : Int32))]))
              refine own_retN X48 hx (t := .boolean) (w := (1 : Int32)) Bd.returns (by simp) (hb hby at_312) Bd.notSynchronized rfl (by decide) (by decide) ?_
              rw [e48]
              exact ⟨rfl, N48⟩
            · refine own_Fin.go (fun t k => XS.ifYes X47.here hx rfl (pc0 := 270) (pc' := 294) rfl (hb hby at_270) rfl (Jvm.Free.XT.i0_ne_t hc270) (by decide) (by decide) k) ?_
              show own_Fin _ _ _ _ _ _ _ (T47.setTop (mkF m 294 #[.val (.int va), .val (.int vb), .val (.int vc), .val (.int vd), .val (.int ve), .val (.int vf), .val (.ref b1), .val (.int oA), .val (.int nA), .val (.int oB), .val (.int nB), .val (.int oC), .val (.int nC), .val (.int (1 : Int32)), .val (.int (0 : Int32)), .val (.int (0 : Int32)), .val (.ref b42), .unset] []))
              refine own_Fin.go (fun t k => XS.iconst X47.here hx rfl (hb hby at_294) k) ?_
              show own_Fin _ _ _ _ _ _ _ (T47.setTop (mkF m 295 #[.val (.int va), .val (.int vb), .val (.int vc), .val (.int vd), .val (.int ve), .val (.int vf), .val (.ref b1), .val (.int oA), .val (.int nA), .val (.int oB), .val (.int nB), .val (.int oC), .val (.int nC), .val (.int (1 : Int32)), .val (.int (0 : Int32)), .val (.int (0 : Int32)), .val (.ref b42), .unset] [(.int (0 : Int32))]))
              refine own_Fin.go (fun t k => XS.istore X47.here hx rfl (hb hby at_295) rfl (l' := #[.val (.int va), .val (.int vb), .val (.int vc), .val (.int vd), .val (.int ve), .val (.int vf), .val (.ref b1), .val (.int oA), .val (.int nA), .val (.int oB), .val (.int nB), .val (.int oC), .val (.int nC), .val (.int (1 : Int32)), .val (.int (0 : Int32)), .val (.int (0 : Int32)), .val (.ref b42), .val (.int (0 : Int32))]) rfl k) ?_
              show own_Fin _ _ _ _ _ _ _ (T47.setTop (mkF m 297 #[.val (.int va), .val (.int vb), .val (.int vc), .val (.int vd), .val (.int ve), .val (.int vf), .val (.ref b1), .val (.int oA), .val (.int nA), .val (.int oB), .val (.int nB), .val (.int oC), .val (.int nC), .val (.int (1 : Int32)), .val (.int (0 : Int32)), .val (.int (0 : Int32)), .val (.ref b42), .val (.int (0 : Int32))] []))
              refine own_Fin.go (fun t k => XS.aload X47.here hx rfl (hb hby at_297) rfl rfl k) ?_
              show own_Fin _ _ _ _ _ _ _ (T47.setTop (mkF m 299 #[.val (.int va), .val (.int vb), .val (.int vc), .val (.int vd), .val (.int ve), .val (.int vf), .val (.ref b1), .val (.int oA), .val (.int nA), .val (.int oB), .val (.int nB), .val (.int oC), .val (.int nC), .val (.int (1 : Int32)), .val (.int (0 : Int32)), .val (.int (0 : Int32)), .val (.ref b42), .val (.int (0 : Int32))] [(.ref b42)]))
              obtain ⟨cq49, kq49, q49a, q49b, q49c⟩ := isOf hZ e47 c45_1
              obtain ⟨_, _, ⟨T49, L49, k49, n49⟩, -, X49, ⟨Lc49, hQ49, l49, y49, z49⟩, st49⟩ := X47.virtualBack hx (y := (⟨"com/example/wardkeeper/wardkeeper/hl7/Lines", "allAscii", "()Z"⟩ : MethodName)) (z := (⟨"com/example/wardkeeper/wardkeeper/hl7/Lines", "allAscii", "()Z"⟩ : MethodName)) hown (mvT hZ (hw _ (List.mem_of_getElem? (i := 42) rfl))) (mvT hZ (hw _ (List.mem_of_getElem? (i := 43) rfl))) (notFace_of_selects (args := #[]) (mvT hZ (hw _ (List.mem_of_getElem? (i := 45) rfl)))) (mvT hZ (hw _ (List.mem_of_getElem? (i := 45) rfl))) (mvT hZ (hw _ (List.mem_of_getElem? (i := 44) rfl))) (by decide) (backOf (W := 0) (own_rm_aa2 l Z a0 hw [] b42 ob43 kb43 (own_cp (own_cp (List.replicate 1024 (0 : Int32)) LS (0 : Int32) oA nA) LS ((0 : Int32) + nA) oB nB) oe43 ke43 ((0 : Int32) + nA) (((0 : Int32) + nA) + nB) (0 : Int32) T45.heap n0 Z45 c45_1 c45_2 c45_3 c45_4 c45_5 c45_6 (own_up hO45.1 (by decide)) hL45) hZ (hw _ (List.mem_of_getElem? (i := 46) rfl)) (hw _ (List.mem_of_getElem? (i := 3) rfl)) (by decide) (by decide)) q49a q49c (g := (mkF m 299 #[.val (.int va), .val (.int vb), .val (.int vc), .val (.int vd), .val (.int ve), .val (.int vf), .val (.ref b1), .val (.int oA), .val (.int nA), .val (.int oB), .val (.int nB), .val (.int oC), .val (.int nC), .val (.int (1 : Int32)), .val (.int (0 : Int32)), .val (.int (0 : Int32)), .val (.ref b42), .val (.int (0 : Int32))] [(.ref b42)])) rfl (by rw [hml]; rfl) (Steps.refl _) (argsL := []) (rest := []) (lenOf own_pd6 rfl) rfl (by show 2 * 0 + _ ≤ _; exact Nat.le_of_eq rfl) (hb hby at_299) (fun _ _ => ⟨rfl, e47, (by decide : 4 + 0 ≤ _), (by decide : 1051 + 0 ≤ _)⟩)
              dsimp only [Pt.U, Pt.locs, Pt.cells, Pt.slots] at X49 l49 y49 z49 st49 hQ49
              subst l49 y49 z49
              obtain ⟨rfl, N49q, e49⟩ := hQ49
              refine own_Fin.go (fun t k => st49.trans k) ?_
              have N49 := Fr.app N47 N49q
              show own_Fin _ _ _ _ _ _ _ (T49.setTop (mkF m 302 #[.val (.int va), .val (.int vb), .val (.int vc), .val (.int vd), .val (.int ve), .val (.int vf), .val (.ref b1), .val (.int oA), .val (.int nA), .val (.int oB), .val (.int nB), .val (.int oC), .val (.int nC), .val (.int (1 : Int32)), .val (.int (0 : Int32)), .val (.int (0 : Int32)), .val (.ref b42), .val (.int (0 : Int32))] [(.int (own_all (own_cp (own_cp (List.replicate 1024 (0 : Int32)) LS (0 : Int32) oA nA) LS ((0 : Int32) + nA) oB nB) (((0 : Int32) + nA) + nB)))]))
              refine own_Fin.go (fun t k => XS.iload X49.here hx rfl (hb hby at_302) rfl k) ?_
              show own_Fin _ _ _ _ _ _ _ (T49.setTop (mkF m 304 #[.val (.int va), .val (.int vb), .val (.int vc), .val (.int vd), .val (.int ve), .val (.int vf), .val (.ref b1), .val (.int oA), .val (.int nA), .val (.int oB), .val (.int nB), .val (.int oC), .val (.int nC), .val (.int (1 : Int32)), .val (.int (0 : Int32)), .val (.int (0 : Int32)), .val (.ref b42), .val (.int (0 : Int32))] [(.int (0 : Int32)), (.int (own_all (own_cp (own_cp (List.replicate 1024 (0 : Int32)) LS (0 : Int32) oA nA) LS ((0 : Int32) + nA) oB nB) (((0 : Int32) + nA) + nB)))]))
              have hc304 : (own_all (own_cp (own_cp (List.replicate 1024 (0 : Int32)) LS (0 : Int32) oA nA) LS ((0 : Int32) + nA) oB nB) (((0 : Int32) + nA) + nB)) = (0 : Int32) := own_all0 hT45 (own_inr (own_evil hJ138.2.1 hc270))
              refine own_Fin.go (fun t k => XS.icmpNo X49.here hx rfl (hb hby at_304) rfl (Jvm.Free.XT.ii_ne_f hc304) k) ?_
              show own_Fin _ _ _ _ _ _ _ (T49.setTop (mkF m 307 #[.val (.int va), .val (.int vb), .val (.int vc), .val (.int vd), .val (.int ve), .val (.int vf), .val (.ref b1), .val (.int oA), .val (.int nA), .val (.int oB), .val (.int nB), .val (.int oC), .val (.int nC), .val (.int (1 : Int32)), .val (.int (0 : Int32)), .val (.int (0 : Int32)), .val (.ref b42), .val (.int (0 : Int32))] []))
              refine own_Fin.go (fun t k => XS.iconst X49.here hx rfl (hb hby at_307) k) ?_
              show own_Fin _ _ _ _ _ _ _ (T49.setTop (mkF m 308 #[.val (.int va), .val (.int vb), .val (.int vc), .val (.int vd), .val (.int ve), .val (.int vf), .val (.ref b1), .val (.int oA), .val (.int nA), .val (.int oB), .val (.int nB), .val (.int oC), .val (.int nC), .val (.int (1 : Int32)), .val (.int (0 : Int32)), .val (.int (0 : Int32)), .val (.ref b42), .val (.int (0 : Int32))] [(.int (1 : Int32))]))
              refine own_Fin.go (fun t k => XS.goto X49.here hx rfl (pc0 := 308) (pc' := 312) rfl (hb hby at_308) (by decide) (by decide) k) ?_
              show own_Fin _ _ _ _ _ _ _ (T49.setTop (mkF m 312 #[.val (.int va), .val (.int vb), .val (.int vc), .val (.int vd), .val (.int ve), .val (.int vf), .val (.ref b1), .val (.int oA), .val (.int nA), .val (.int oB), .val (.int nB), .val (.int oC), .val (.int nC), .val (.int (1 : Int32)), .val (.int (0 : Int32)), .val (.int (0 : Int32)), .val (.ref b42), .val (.int (0 : Int32))] [(.int (1 : Int32))]))
              refine own_retN X49 hx (t := .boolean) (w := (1 : Int32)) Bd.returns (by simp) (hb hby at_312) Bd.notSynchronized rfl (by decide) (by decide) ?_
              rw [e49]
              exact ⟨rfl, N49⟩
          · refine own_Fin.go (fun t k => XS.ifYes X46.here hx rfl (pc0 := 258) (pc' := 294) rfl (hb hby at_258) rfl (Jvm.Free.XT.i0_ne_t hc258) (by decide) (by decide) k) ?_
            show own_Fin _ _ _ _ _ _ _ (T46.setTop (mkF m 294 #[.val (.int va), .val (.int vb), .val (.int vc), .val (.int vd), .val (.int ve), .val (.int vf), .val (.ref b1), .val (.int oA), .val (.int nA), .val (.int oB), .val (.int nB), .val (.int oC), .val (.int nC), .val (.int (1 : Int32)), .val (.int (0 : Int32)), .val (.int (0 : Int32)), .val (.ref b42), .unset] []))
            refine own_Fin.go (fun t k => XS.iconst X46.here hx rfl (hb hby at_294) k) ?_
            show own_Fin _ _ _ _ _ _ _ (T46.setTop (mkF m 295 #[.val (.int va), .val (.int vb), .val (.int vc), .val (.int vd), .val (.int ve), .val (.int vf), .val (.ref b1), .val (.int oA), .val (.int nA), .val (.int oB), .val (.int nB), .val (.int oC), .val (.int nC), .val (.int (1 : Int32)), .val (.int (0 : Int32)), .val (.int (0 : Int32)), .val (.ref b42), .unset] [(.int (0 : Int32))]))
            refine own_Fin.go (fun t k => XS.istore X46.here hx rfl (hb hby at_295) rfl (l' := #[.val (.int va), .val (.int vb), .val (.int vc), .val (.int vd), .val (.int ve), .val (.int vf), .val (.ref b1), .val (.int oA), .val (.int nA), .val (.int oB), .val (.int nB), .val (.int oC), .val (.int nC), .val (.int (1 : Int32)), .val (.int (0 : Int32)), .val (.int (0 : Int32)), .val (.ref b42), .val (.int (0 : Int32))]) rfl k) ?_
            show own_Fin _ _ _ _ _ _ _ (T46.setTop (mkF m 297 #[.val (.int va), .val (.int vb), .val (.int vc), .val (.int vd), .val (.int ve), .val (.int vf), .val (.ref b1), .val (.int oA), .val (.int nA), .val (.int oB), .val (.int nB), .val (.int oC), .val (.int nC), .val (.int (1 : Int32)), .val (.int (0 : Int32)), .val (.int (0 : Int32)), .val (.ref b42), .val (.int (0 : Int32))] []))
            refine own_Fin.go (fun t k => XS.aload X46.here hx rfl (hb hby at_297) rfl rfl k) ?_
            show own_Fin _ _ _ _ _ _ _ (T46.setTop (mkF m 299 #[.val (.int va), .val (.int vb), .val (.int vc), .val (.int vd), .val (.int ve), .val (.int vf), .val (.ref b1), .val (.int oA), .val (.int nA), .val (.int oB), .val (.int nB), .val (.int oC), .val (.int nC), .val (.int (1 : Int32)), .val (.int (0 : Int32)), .val (.int (0 : Int32)), .val (.ref b42), .val (.int (0 : Int32))] [(.ref b42)]))
            obtain ⟨cq50, kq50, q50a, q50b, q50c⟩ := isOf hZ e46 c45_1
            obtain ⟨_, _, ⟨T50, L50, k50, n50⟩, -, X50, ⟨Lc50, hQ50, l50, y50, z50⟩, st50⟩ := X46.virtualBack hx (y := (⟨"com/example/wardkeeper/wardkeeper/hl7/Lines", "allAscii", "()Z"⟩ : MethodName)) (z := (⟨"com/example/wardkeeper/wardkeeper/hl7/Lines", "allAscii", "()Z"⟩ : MethodName)) hown (mvT hZ (hw _ (List.mem_of_getElem? (i := 42) rfl))) (mvT hZ (hw _ (List.mem_of_getElem? (i := 43) rfl))) (notFace_of_selects (args := #[]) (mvT hZ (hw _ (List.mem_of_getElem? (i := 45) rfl)))) (mvT hZ (hw _ (List.mem_of_getElem? (i := 45) rfl))) (mvT hZ (hw _ (List.mem_of_getElem? (i := 44) rfl))) (by decide) (backOf (W := 0) (own_rm_aa2 l Z a0 hw [] b42 ob43 kb43 (own_cp (own_cp (List.replicate 1024 (0 : Int32)) LS (0 : Int32) oA nA) LS ((0 : Int32) + nA) oB nB) oe43 ke43 ((0 : Int32) + nA) (((0 : Int32) + nA) + nB) (0 : Int32) T45.heap n0 Z45 c45_1 c45_2 c45_3 c45_4 c45_5 c45_6 (own_up hO45.1 (by decide)) hL45) hZ (hw _ (List.mem_of_getElem? (i := 46) rfl)) (hw _ (List.mem_of_getElem? (i := 3) rfl)) (by decide) (by decide)) q50a q50c (g := (mkF m 299 #[.val (.int va), .val (.int vb), .val (.int vc), .val (.int vd), .val (.int ve), .val (.int vf), .val (.ref b1), .val (.int oA), .val (.int nA), .val (.int oB), .val (.int nB), .val (.int oC), .val (.int nC), .val (.int (1 : Int32)), .val (.int (0 : Int32)), .val (.int (0 : Int32)), .val (.ref b42), .val (.int (0 : Int32))] [(.ref b42)])) rfl (by rw [hml]; rfl) (Steps.refl _) (argsL := []) (rest := []) (lenOf own_pd6 rfl) rfl (by show 2 * 0 + _ ≤ _; exact Nat.le_of_eq rfl) (hb hby at_299) (fun _ _ => ⟨rfl, e46, (by decide : 4 + 0 ≤ _), (by decide : 1051 + 0 ≤ _)⟩)
            dsimp only [Pt.U, Pt.locs, Pt.cells, Pt.slots] at X50 l50 y50 z50 st50 hQ50
            subst l50 y50 z50
            obtain ⟨rfl, N50q, e50⟩ := hQ50
            refine own_Fin.go (fun t k => st50.trans k) ?_
            have N50 := Fr.app N46 N50q
            show own_Fin _ _ _ _ _ _ _ (T50.setTop (mkF m 302 #[.val (.int va), .val (.int vb), .val (.int vc), .val (.int vd), .val (.int ve), .val (.int vf), .val (.ref b1), .val (.int oA), .val (.int nA), .val (.int oB), .val (.int nB), .val (.int oC), .val (.int nC), .val (.int (1 : Int32)), .val (.int (0 : Int32)), .val (.int (0 : Int32)), .val (.ref b42), .val (.int (0 : Int32))] [(.int (own_all (own_cp (own_cp (List.replicate 1024 (0 : Int32)) LS (0 : Int32) oA nA) LS ((0 : Int32) + nA) oB nB) (((0 : Int32) + nA) + nB)))]))
            refine own_Fin.go (fun t k => XS.iload X50.here hx rfl (hb hby at_302) rfl k) ?_
            show own_Fin _ _ _ _ _ _ _ (T50.setTop (mkF m 304 #[.val (.int va), .val (.int vb), .val (.int vc), .val (.int vd), .val (.int ve), .val (.int vf), .val (.ref b1), .val (.int oA), .val (.int nA), .val (.int oB), .val (.int nB), .val (.int oC), .val (.int nC), .val (.int (1 : Int32)), .val (.int (0 : Int32)), .val (.int (0 : Int32)), .val (.ref b42), .val (.int (0 : Int32))] [(.int (0 : Int32)), (.int (own_all (own_cp (own_cp (List.replicate 1024 (0 : Int32)) LS (0 : Int32) oA nA) LS ((0 : Int32) + nA) oB nB) (((0 : Int32) + nA) + nB)))]))
            have hc304 : (own_all (own_cp (own_cp (List.replicate 1024 (0 : Int32)) LS (0 : Int32) oA nA) LS ((0 : Int32) + nA) oB nB) (((0 : Int32) + nA) + nB)) = (0 : Int32) := own_all0 hT45 (own_inl (own_inr (own_evil hJ138.1 hc258)))
            refine own_Fin.go (fun t k => XS.icmpNo X50.here hx rfl (hb hby at_304) rfl (Jvm.Free.XT.ii_ne_f hc304) k) ?_
            show own_Fin _ _ _ _ _ _ _ (T50.setTop (mkF m 307 #[.val (.int va), .val (.int vb), .val (.int vc), .val (.int vd), .val (.int ve), .val (.int vf), .val (.ref b1), .val (.int oA), .val (.int nA), .val (.int oB), .val (.int nB), .val (.int oC), .val (.int nC), .val (.int (1 : Int32)), .val (.int (0 : Int32)), .val (.int (0 : Int32)), .val (.ref b42), .val (.int (0 : Int32))] []))
            refine own_Fin.go (fun t k => XS.iconst X50.here hx rfl (hb hby at_307) k) ?_
            show own_Fin _ _ _ _ _ _ _ (T50.setTop (mkF m 308 #[.val (.int va), .val (.int vb), .val (.int vc), .val (.int vd), .val (.int ve), .val (.int vf), .val (.ref b1), .val (.int oA), .val (.int nA), .val (.int oB), .val (.int nB), .val (.int oC), .val (.int nC), .val (.int (1 : Int32)), .val (.int (0 : Int32)), .val (.int (0 : Int32)), .val (.ref b42), .val (.int (0 : Int32))] [(.int (1 : Int32))]))
            refine own_Fin.go (fun t k => XS.goto X50.here hx rfl (pc0 := 308) (pc' := 312) rfl (hb hby at_308) (by decide) (by decide) k) ?_
            show own_Fin _ _ _ _ _ _ _ (T50.setTop (mkF m 312 #[.val (.int va), .val (.int vb), .val (.int vc), .val (.int vd), .val (.int ve), .val (.int vf), .val (.ref b1), .val (.int oA), .val (.int nA), .val (.int oB), .val (.int nB), .val (.int oC), .val (.int nC), .val (.int (1 : Int32)), .val (.int (0 : Int32)), .val (.int (0 : Int32)), .val (.ref b42), .val (.int (0 : Int32))] [(.int (1 : Int32))]))
            refine own_retN X50 hx (t := .boolean) (w := (1 : Int32)) Bd.returns (by simp) (hb hby at_312) Bd.notSynchronized rfl (by decide) (by decide) ?_
            rw [e50]
            exact ⟨rfl, N50⟩
        · refine own_Fin.go (fun t k => XS.ifNo X9.here hx rfl (hb hby at_167) rfl (Jvm.Free.XT.i0_eq_f hc167) k) ?_
          show own_Fin _ _ _ _ _ _ _ (T9.setTop (mkF m 170 #[.val (.int va), .val (.int vb), .val (.int vc), .val (.int vd), .val (.int ve), .val (.int vf), .val (.ref b1), .val (.int oA), .val (.int nA), .val (.int oB), .val (.int nB), .val (.int oC), .val (.int nC), .val (.int (1 : Int32)), .val (.int (0 : Int32)), .unset, .unset, .unset] []))
          refine own_Fin.go (fun t k => XS.iconst X9.here hx rfl (hb hby at_170) k) ?_
          show own_Fin _ _ _ _ _ _ _ (T9.setTop (mkF m 171 #[.val (.int va), .val (.int vb), .val (.int vc), .val (.int vd), .val (.int ve), .val (.int vf), .val (.ref b1), .val (.int oA), .val (.int nA), .val (.int oB), .val (.int nB), .val (.int oC), .val (.int nC), .val (.int (1 : Int32)), .val (.int (0 : Int32)), .unset, .unset, .unset] [(.int (1 : Int32))]))
          refine own_Fin.go (fun t k => XS.goto X9.here hx rfl (pc0 := 171) (pc' := 175) rfl (hb hby at_171) (by decide) (by decide) k) ?_
          show own_Fin _ _ _ _ _ _ _ (T9.setTop (mkF m 175 #[.val (.int va), .val (.int vb), .val (.int vc), .val (.int vd), .val (.int ve), .val (.int vf), .val (.ref b1), .val (.int oA), .val (.int nA), .val (.int oB), .val (.int nB), .val (.int oC), .val (.int nC), .val (.int (1 : Int32)), .val (.int (0 : Int32)), .unset, .unset, .unset] [(.int (1 : Int32))]))
          refine own_Fin.go (fun t k => XS.istore X9.here hx rfl (hb hby at_175) rfl (l' := #[.val (.int va), .val (.int vb), .val (.int vc), .val (.int vd), .val (.int ve), .val (.int vf), .val (.ref b1), .val (.int oA), .val (.int nA), .val (.int oB), .val (.int nB), .val (.int oC), .val (.int nC), .val (.int (1 : Int32)), .val (.int (0 : Int32)), .val (.int (1 : Int32)), .unset, .unset]) rfl k) ?_
          show own_Fin _ _ _ _ _ _ _ (T9.setTop (mkF m 177 #[.val (.int va), .val (.int vb), .val (.int vc), .val (.int vd), .val (.int ve), .val (.int vf), .val (.ref b1), .val (.int oA), .val (.int nA), .val (.int oB), .val (.int nB), .val (.int oC), .val (.int nC), .val (.int (1 : Int32)), .val (.int (0 : Int32)), .val (.int (1 : Int32)), .unset, .unset] []))
          obtain ⟨T51, h51, X51, e51, E51, A51, D51, -, st51⟩ := newO X9 hx hZ hown (hw _ (List.mem_of_getElem? (i := 1) rfl)) (hw _ (List.mem_of_getElem? (i := 2) rfl)) (hw _ (List.mem_of_getElem? (i := 3) rfl)) e9 (g := (mkF m 177 #[.val (.int va), .val (.int vb), .val (.int vc), .val (.int vd), .val (.int ve), .val (.int vf), .val (.ref b1), .val (.int oA), .val (.int nA), .val (.int oB), .val (.int nB), .val (.int oC), .val (.int nC), .val (.int (1 : Int32)), .val (.int (0 : Int32)), .val (.int (1 : Int32)), .unset, .unset] [])) rfl (hb hby at_177) (by decide) (by decide)
          obtain ⟨b51, g51⟩ : ∃ z, z = h9.size := ⟨_, rfl⟩
          rw [← g51] at A51 D51 st51
          refine own_Fin.go st51 ?_
          have g_b51 : n0 ≤ b51 := Nat.le_trans Z9 (Nat.le_of_eq g51.symm)
          have ne_b1_b51 : b1 ≠ b51 := Nat.ne_of_lt (Nat.lt_of_lt_of_le VS.lt (Nat.le_of_eq g51.symm))
          have VS_51 := VS.ext E51
          have Z51 := Nat.le_trans Z9 E51.1
          have F_b51_bytes : Fld Z h51 b51 "com/example/wardkeeper/wardkeeper/hl7/Lines" "bytes" "[B" .null := D51 (Or.inl (hw _ (List.mem_of_getElem? (i := 11) rfl))) (ty := (.array .byte)) (by decide)
          have F_b51_ends : Fld Z h51 b51 "com/example/wardkeeper/wardkeeper/hl7/Lines" "ends" "[I" .null := D51 (Or.inl (hw _ (List.mem_of_getElem? (i := 14) rfl))) (ty := (.array .int)) (by decide)
          have F_b51_count : Fld Z h51 b51 "com/example/wardkeeper/wardkeeper/hl7/Lines" "count" "I" (.int (0 : Int32)) := D51 (Or.inl (hw _ (List.mem_of_getElem? (i := 21) rfl))) (ty := .int) (by decide)
          show own_Fin _ _ _ _ _ _ _ (T51.setTop (mkF m 180 #[.val (.int va), .val (.int vb), .val (.int vc), .val (.int vd), .val (.int ve), .val (.int vf), .val (.ref b1), .val (.int oA), .val (.int nA), .val (.int oB), .val (.int nB), .val (.int oC), .val (.int nC), .val (.int (1 : Int32)), .val (.int (0 : Int32)), .val (.int (1 : Int32)), .unset, .unset] [(.ref b51)]))
          refine own_Fin.go (fun t k => XS.dup X51.here hx rfl (hb hby at_180) rfl rfl k) ?_
          show own_Fin _ _ _ _ _ _ _ (T51.setTop (mkF m 181 #[.val (.int va), .val (.int vb), .val (.int vc), .val (.int vd), .val (.int ve), .val (.int vf), .val (.ref b1), .val (.int oA), .val (.int nA), .val (.int oB), .val (.int nB), .val (.int oC), .val (.int nC), .val (.int (1 : Int32)), .val (.int (0 : Int32)), .val (.int (1 : Int32)), .unset, .unset] [(.ref b51), (.ref b51)]))
          obtain ⟨_, _, ⟨T52, L52, k52, n52⟩, -, X52, ⟨Lc52, hQ52, l52, y52, z52⟩, st52⟩ := X51.specialBack hx (y := (⟨"com/example/wardkeeper/wardkeeper/hl7/Lines", "<init>", "()V"⟩ : MethodName)) rfl hown (mvT hZ (hw _ (List.mem_of_getElem? (i := 4) rfl))) (mvT hZ (hw _ (List.mem_of_getElem? (i := 5) rfl))) (mvT hZ (hw _ (List.mem_of_getElem? (i := 6) rfl))) (by decide) (backOf (W := 1) (own_rm_ini l Z a0 hw [] b51  h51 n0 Z51 A51 F_b51_bytes F_b51_ends F_b51_count g_b51) hZ (hw _ (List.mem_of_getElem? (i := 6) rfl)) (hw _ (List.mem_of_getElem? (i := 3) rfl)) (by decide) (by decide)) (g := (mkF m 181 #[.val (.int va), .val (.int vb), .val (.int vc), .val (.int vd), .val (.int ve), .val (.int vf), .val (.ref b1), .val (.int oA), .val (.int nA), .val (.int oB), .val (.int nB), .val (.int oC), .val (.int nC), .val (.int (1 : Int32)), .val (.int (0 : Int32)), .val (.int (1 : Int32)), .unset, .unset] [(.ref b51), (.ref b51)])) rfl (by rw [hml]; rfl) (Steps.refl _) (a := b51) (argsL := []) (rest := [(.ref b51)]) (lenOf own_pd3 rfl) rfl (by show 2 * 0 + _ ≤ _; exact Nat.le_of_eq rfl) (hb hby at_181) (fun _ _ => ⟨rfl, e51, (by decide : 2 + 2 ≤ _), (by decide : 11 + 1040 ≤ _)⟩)
          dsimp only [Pt.U, Pt.locs, Pt.cells, Pt.slots] at X52 l52 y52 z52 st52 hQ52
          subst l52 y52 z52
          obtain ⟨ob52, oe52, kb52, ke52, rfl, N52q, K52q, c52_1, c52_2, c52_3, c52_4, c52_5, c52_6, c52_7, c52_8, c52_9, c52_10, c52_11⟩ := hQ52
          refine own_Fin.go (fun t k => st52.trans k) ?_
          have N52 := Fr.app N9 N52q
          have VS_52 := VS_51.keep K52q (ninS ne_b1_b51 nin0)
          have Z52 := Nat.le_trans Z51 K52q.1
          have ne_b1_ob52 : b1 ≠ ob52 := Nat.ne_of_lt (Nat.lt_of_lt_of_le VS_51.lt c52_7)
          have ne_b51_ob52 : b51 ≠ ob52 := Nat.ne_of_lt (Nat.lt_of_lt_of_le F_b51_count.lt c52_7)
          have g_ob52 : n0 ≤ ob52 := Nat.le_trans Z51 c52_7
          have ne_b1_oe52 : b1 ≠ oe52 := Nat.ne_of_lt (Nat.lt_of_lt_of_le VS_51.lt c52_8)
          have ne_b51_oe52 : b51 ≠ oe52 := Nat.ne_of_lt (Nat.lt_of_lt_of_le F_b51_count.lt c52_8)
          have g_oe52 : n0 ≤ oe52 := Nat.le_trans Z51 c52_8
          show own_Fin _ _ _ _ _ _ _ (T52.setTop (mkF m 184 #[.val (.int va), .val (.int vb), .val (.int vc), .val (.int vd), .val (.int ve), .val (.int vf), .val (.ref b1), .val (.int oA), .val (.int nA), .val (.int oB), .val (.int nB), .val (.int oC), .val (.int nC), .val (.int (1 : Int32)), .val (.int (0 : Int32)), .val (.int (1 : Int32)), .unset, .unset] [(.ref b51)]))
          refine own_Fin.go (fun t k => XS.astore X52.here hx rfl (hb hby at_184) rfl rfl (l' := #[.val (.int va), .val (.int vb), .val (.int vc), .val (.int vd), .val (.int ve), .val (.int vf), .val (.ref b1), .val (.int oA), .val (.int nA), .val (.int oB), .val (.int nB), .val (.int oC), .val (.int nC), .val (.int (1 : Int32)), .val (.int (0 : Int32)), .val (.int (1 : Int32)), .val (.ref b51), .unset]) rfl k) ?_
          show own_Fin _ _ _ _ _ _ _ (T52.setTop (mkF m 186 #[.val (.int va), .val (.int vb), .val (.int vc), .val (.int vd), .val (.int ve), .val (.int vf), .val (.ref b1), .val (.int oA), .val (.int nA), .val (.int oB), .val (.int nB), .val (.int oC), .val (.int nC), .val (.int (1 : Int32)), .val (.int (0 : Int32)), .val (.int (1 : Int32)), .val (.ref b51), .unset] []))
          refine own_Fin.go (fun t k => XS.iload X52.here hx rfl (hb hby at_186) rfl k) ?_
          show own_Fin _ _ _ _ _ _ _ (T52.setTop (mkF m 188 #[.val (.int va), .val (.int vb), .val (.int vc), .val (.int vd), .val (.int ve), .val (.int vf), .val (.ref b1), .val (.int oA), .val (.int nA), .val (.int oB), .val (.int nB), .val (.int oC), .val (.int nC), .val (.int (1 : Int32)), .val (.int (0 : Int32)), .val (.int (1 : Int32)), .val (.ref b51), .unset] [(.int (1 : Int32))]))
          refine own_Fin.go (fun t k => XS.ifNo X52.here hx rfl (hb hby at_188) rfl (by decide) k) ?_
          show own_Fin _ _ _ _ _ _ _ (T52.setTop (mkF m 191 #[.val (.int va), .val (.int vb), .val (.int vc), .val (.int vd), .val (.int ve), .val (.int vf), .val (.ref b1), .val (.int oA), .val (.int nA), .val (.int oB), .val (.int nB), .val (.int oC), .val (.int nC), .val (.int (1 : Int32)), .val (.int (0 : Int32)), .val (.int (1 : Int32)), .val (.ref b51), .unset] []))
          refine own_Fin.go (fun t k => XS.aload X52.here hx rfl (hb hby at_191) rfl rfl k) ?_
          show own_Fin _ _ _ _ _ _ _ (T52.setTop (mkF m 193 #[.val (.int va), .val (.int vb), .val (.int vc), .val (.int vd), .val (.int ve), .val (.int vf), .val (.ref b1), .val (.int oA), .val (.int nA), .val (.int oB), .val (.int nB), .val (.int oC), .val (.int nC), .val (.int (1 : Int32)), .val (.int (0 : Int32)), .val (.int (1 : Int32)), .val (.ref b51), .unset] [(.ref b51)]))
          refine own_Fin.go (fun t k => XS.aload X52.here hx rfl (hb hby at_193) rfl rfl k) ?_
          show own_Fin _ _ _ _ _ _ _ (T52.setTop (mkF m 195 #[.val (.int va), .val (.int vb), .val (.int vc), .val (.int vd), .val (.int ve), .val (.int vf), .val (.ref b1), .val (.int oA), .val (.int nA), .val (.int oB), .val (.int nB), .val (.int oC), .val (.int nC), .val (.int (1 : Int32)), .val (.int (0 : Int32)), .val (.int (1 : Int32)), .val (.ref b51), .unset] [(.ref b1), (.ref b51)]))
          refine own_Fin.go (fun t k => XS.iload X52.here hx rfl (hb hby at_195) rfl k) ?_
          show own_Fin _ _ _ _ _ _ _ (T52.setTop (mkF m 197 #[.val (.int va), .val (.int vb), .val (.int vc), .val (.int vd), .val (.int ve), .val (.int vf), .val (.ref b1), .val (.int oA), .val (.int nA), .val (.int oB), .val (.int nB), .val (.int oC), .val (.int nC), .val (.int (1 : Int32)), .val (.int (0 : Int32)), .val (.int (1 : Int32)), .val (.ref b51), .unset] [(.int oA), (.ref b1), (.ref b51)]))
          refine own_Fin.go (fun t k => XS.iload X52.here hx rfl (hb hby at_197) rfl k) ?_
          show own_Fin _ _ _ _ _ _ _ (T52.setTop (mkF m 199 #[.val (.int va), .val (.int vb), .val (.int vc), .val (.int vd), .val (.int ve), .val (.int vf), .val (.ref b1), .val (.int oA), .val (.int nA), .val (.int oB), .val (.int nB), .val (.int oC), .val (.int nC), .val (.int (1 : Int32)), .val (.int (0 : Int32)), .val (.int (1 : Int32)), .val (.ref b51), .unset] [(.int nA), (.int oA), (.ref b1), (.ref b51)]))
          obtain ⟨cq53, kq53, q53a, q53b, q53c⟩ := isOf hZ rfl c52_1
          obtain ⟨_, _, ⟨T53, L53, k53, n53⟩, -, X53, ⟨Lc53, hQ53, l53, y53, z53⟩, st53⟩ := X52.virtualBack hx (y := (⟨"com/example/wardkeeper/wardkeeper/hl7/Lines", "add", "([BII)V"⟩ : MethodName)) (z := (⟨"com/example/wardkeeper/wardkeeper/hl7/Lines", "add", "([BII)V"⟩ : MethodName)) hown (mvT hZ (hw _ (List.mem_of_getElem? (i := 22) rfl))) (mvT hZ (hw _ (List.mem_of_getElem? (i := 23) rfl))) (notFace_of_selects (args := #[]) (mvT hZ (hw _ (List.mem_of_getElem? (i := 25) rfl)))) (mvT hZ (hw _ (List.mem_of_getElem? (i := 25) rfl))) (mvT hZ (hw _ (List.mem_of_getElem? (i := 24) rfl))) (by decide) (backOf (W := 0) (own_rm_add0 l Z a0 hw [] b51 b1 oA nA ob52 kb52 k1 (List.replicate 1024 (0 : Int32)) LS oe52 ke52 (0 : Int32) (0 : Int32) (0 : Int32) T52.heap n0 Z52 c52_1 c52_2 c52_3 c52_4 c52_5 c52_6 VS_52 g_b51 g_ob52 g_oe52 c52_9 c52_10 c52_11 ne_b1_b51 ne_b1_ob52 ne_b1_oe52 hJ138.1 (⟨by decide, by decide⟩ : own_ok 100 0) (by rw [List.length_replicate])) hZ (hw _ (List.mem_of_getElem? (i := 26) rfl)) (hw _ (List.mem_of_getElem? (i := 3) rfl)) (by decide) (by decide)) q53a q53c (g := (mkF m 199 #[.val (.int va), .val (.int vb), .val (.int vc), .val (.int vd), .val (.int ve), .val (.int vf), .val (.ref b1), .val (.int oA), .val (.int nA), .val (.int oB), .val (.int nB), .val (.int oC), .val (.int nC), .val (.int (1 : Int32)), .val (.int (0 : Int32)), .val (.int (1 : Int32)), .val (.ref b51), .unset] [(.int nA), (.int oA), (.ref b1), (.ref b51)])) rfl (by rw [hml]; rfl) (Steps.refl _) (argsL := [(.ref b1), (.int oA), (.int nA)]) (rest := []) (lenOf own_pd4 rfl) rfl (by show 2 * 0 + _ ≤ _; exact Nat.le_of_eq rfl) (hb hby at_199) (fun _ _ => ⟨rfl, rfl, (by decide : 4 + 0 ≤ _), (by decide : 1051 + 0 ≤ _)⟩)
          dsimp only [Pt.U, Pt.locs, Pt.cells, Pt.slots] at X53 l53 y53 z53 st53 hQ53
          subst l53 y53 z53
          obtain ⟨rfl, N53q, K53q, c53_1, c53_2, c53_3, c53_4, c53_5, c53_6⟩ := hQ53
          refine own_Fin.go (fun t k => st53.trans k) ?_
          have N53 := Fr.app N52 N53q
          have VS_53 := VS_52.keep K53q (ninS ne_b1_b51 (ninS ne_b1_ob52 (ninS ne_b1_oe52 nin0)))
          have Z53 := Nat.le_trans Z52 K53q.1
          have hO53 := own_next (⟨by decide, by decide⟩ : own_ok 0 0) (by decide) hJ138.1
          have hT53 := own_cpTake (LB := (List.replicate 1024 (0 : Int32))) (LS := LS) (S := (0 : Int32)) (o := oA) (n := nA) (by rw [List.length_replicate]) (own_up (⟨by decide, by decide⟩ : own_ok 0 0) (by decide)) hJ138.1
          rw [← hO53.2] at hT53
          have hL53 := own_cpLen (LB := (List.replicate 1024 (0 : Int32))) (LS := LS) (S := (0 : Int32)) (o := oA) (n := nA) (by rw [List.length_replicate]) (own_up (⟨by decide, by decide⟩ : own_ok 0 0) (by decide)) hJ138.1
          show own_Fin _ _ _ _ _ _ _ (T53.setTop (mkF m 202 #[.val (.int va), .val (.int vb), .val (.int vc), .val (.int vd), .val (.int ve), .val (.int vf), .val (.ref b1), .val (.int oA), .val (.int nA), .val (.int oB), .val (.int nB), .val (.int oC), .val (.int nC), .val (.int (1 : Int32)), .val (.int (0 : Int32)), .val (.int (1 : Int32)), .val (.ref b51), .unset] []))
          refine own_Fin.go (fun t k => XS.iload X53.here hx rfl (hb hby at_202) rfl k) ?_
          show own_Fin _ _ _ _ _ _ _ (T53.setTop (mkF m 204 #[.val (.int va), .val (.int vb), .val (.int vc), .val (.int vd), .val (.int ve), .val (.int vf), .val (.ref b1), .val (.int oA), .val (.int nA), .val (.int oB), .val (.int nB), .val (.int oC), .val (.int nC), .val (.int (1 : Int32)), .val (.int (0 : Int32)), .val (.int (1 : Int32)), .val (.ref b51), .unset] [(.int (0 : Int32))]))
          refine own_Fin.go (fun t k => XS.ifYes X53.here hx rfl (pc0 := 204) (pc' := 212) rfl (hb hby at_204) rfl (by decide) (by decide) (by decide) k) ?_
          show own_Fin _ _ _ _ _ _ _ (T53.setTop (mkF m 212 #[.val (.int va), .val (.int vb), .val (.int vc), .val (.int vd), .val (.int ve), .val (.int vf), .val (.ref b1), .val (.int oA), .val (.int nA), .val (.int oB), .val (.int nB), .val (.int oC), .val (.int nC), .val (.int (1 : Int32)), .val (.int (0 : Int32)), .val (.int (1 : Int32)), .val (.ref b51), .unset] []))
          refine own_Fin.go (fun t k => XS.aload X53.here hx rfl (hb hby at_212) rfl rfl k) ?_
          show own_Fin _ _ _ _ _ _ _ (T53.setTop (mkF m 214 #[.val (.int va), .val (.int vb), .val (.int vc), .val (.int vd), .val (.int ve), .val (.int vf), .val (.ref b1), .val (.int oA), .val (.int nA), .val (.int oB), .val (.int nB), .val (.int oC), .val (.int nC), .val (.int (1 : Int32)), .val (.int (0 : Int32)), .val (.int (1 : Int32)), .val (.ref b51), .unset] [(.ref b51)]))
          refine own_Fin.go (fun t k => XS.aload X53.here hx rfl (hb hby at_214) rfl rfl k) ?_
          show own_Fin _ _ _ _ _ _ _ (T53.setTop (mkF m 216 #[.val (.int va), .val (.int vb), .val (.int vc), .val (.int vd), .val (.int ve), .val (.int vf), .val (.ref b1), .val (.int oA), .val (.int nA), .val (.int oB), .val (.int nB), .val (.int oC), .val (.int nC), .val (.int (1 : Int32)), .val (.int (0 : Int32)), .val (.int (1 : Int32)), .val (.ref b51), .unset] [(.ref b1), (.ref b51)]))
          refine own_Fin.go (fun t k => XS.iload X53.here hx rfl (hb hby at_216) rfl k) ?_
          show own_Fin _ _ _ _ _ _ _ (T53.setTop (mkF m 218 #[.val (.int va), .val (.int vb), .val (.int vc), .val (.int vd), .val (.int ve), .val (.int vf), .val (.ref b1), .val (.int oA), .val (.int nA), .val (.int oB), .val (.int nB), .val (.int oC), .val (.int nC), .val (.int (1 : Int32)), .val (.int (0 : Int32)), .val (.int (1 : Int32)), .val (.ref b51), .unset] [(.int oB), (.ref b1), (.ref b51)]))
          refine own_Fin.go (fun t k => XS.iload X53.here hx rfl (hb hby at_218) rfl k) ?_
          show own_Fin _ _ _ _ _ _ _ (T53.setTop (mkF m 220 #[.val (.int va), .val (.int vb), .val (.int vc), .val (.int vd), .val (.int ve), .val (.int vf), .val (.ref b1), .val (.int oA), .val (.int nA), .val (.int oB), .val (.int nB), .val (.int oC), .val (.int nC), .val (.int (1 : Int32)), .val (.int (0 : Int32)), .val (.int (1 : Int32)), .val (.ref b51), .unset] [(.int nB), (.int oB), (.ref b1), (.ref b51)]))
          obtain ⟨cq54, kq54, q54a, q54b, q54c⟩ := isOf hZ rfl c53_1
          obtain ⟨_, _, ⟨T54, L54, k54, n54⟩, -, X54, ⟨Lc54, hQ54, l54, y54, z54⟩, st54⟩ := X53.virtualBack hx (y := (⟨"com/example/wardkeeper/wardkeeper/hl7/Lines", "add", "([BII)V"⟩ : MethodName)) (z := (⟨"com/example/wardkeeper/wardkeeper/hl7/Lines", "add", "([BII)V"⟩ : MethodName)) hown (mvT hZ (hw _ (List.mem_of_getElem? (i := 22) rfl))) (mvT hZ (hw _ (List.mem_of_getElem? (i := 23) rfl))) (notFace_of_selects (args := #[]) (mvT hZ (hw _ (List.mem_of_getElem? (i := 25) rfl)))) (mvT hZ (hw _ (List.mem_of_getElem? (i := 25) rfl))) (mvT hZ (hw _ (List.mem_of_getElem? (i := 24) rfl))) (by decide) (backOf (W := 0) (own_rm_add1 l Z a0 hw [] b51 b1 oB nB ob52 kb52 k1 (own_cp (List.replicate 1024 (0 : Int32)) LS (0 : Int32) oA nA) LS oe52 ke52 ((0 : Int32) + nA) (0 : Int32) (0 : Int32) T53.heap n0 Z53 c53_1 c53_2 c53_3 c53_4 c53_5 c53_6 VS_53 g_b51 g_ob52 g_oe52 c52_9 c52_10 c52_11 ne_b1_b51 ne_b1_ob52 ne_b1_oe52 hJ138.2.1 (own_up hO53.1 (by decide)) hL53) hZ (hw _ (List.mem_of_getElem? (i := 26) rfl)) (hw _ (List.mem_of_getElem? (i := 3) rfl)) (by decide) (by decide)) q54a q54c (g := (mkF m 220 #[.val (.int va), .val (.int vb), .val (.int vc), .val (.int vd), .val (.int ve), .val (.int vf), .val (.ref b1), .val (.int oA), .val (.int nA), .val (.int oB), .val (.int nB), .val (.int oC), .val (.int nC), .val (.int (1 : Int32)), .val (.int (0 : Int32)), .val (.int (1 : Int32)), .val (.ref b51), .unset] [(.int nB), (.int oB), (.ref b1), (.ref b51)])) rfl (by rw [hml]; rfl) (Steps.refl _) (argsL := [(.ref b1), (.int oB), (.int nB)]) (rest := []) (lenOf own_pd4 rfl) rfl (by show 2 * 0 + _ ≤ _; exact Nat.le_of_eq rfl) (hb hby at_220) (fun _ _ => ⟨rfl, rfl, (by decide : 4 + 0 ≤ _), (by decide : 1051 + 0 ≤ _)⟩)
          dsimp only [Pt.U, Pt.locs, Pt.cells, Pt.slots] at X54 l54 y54 z54 st54 hQ54
          subst l54 y54 z54
          obtain ⟨rfl, N54q, K54q, c54_1, c54_2, c54_3, c54_4, c54_5, c54_6⟩ := hQ54
          refine own_Fin.go (fun t k => st54.trans k) ?_
          have N54 := Fr.app N53 N54q
          have VS_54 := VS_53.keep K54q (ninS ne_b1_b51 (ninS ne_b1_ob52 (ninS ne_b1_oe52 nin0)))
          have Z54 := Nat.le_trans Z53 K54q.1
          have hO54 := own_next hO53.1 (by decide) hJ138.2.1
          have hT54 := own_cpTake (LB := (own_cp (List.replicate 1024 (0 : Int32)) LS (0 : Int32) oA nA)) (LS := LS) (S := ((0 : Int32) + nA)) (o := oB) (n := nB) hL53 (own_up hO53.1 (by decide)) hJ138.2.1
          rw [← hO54.2, hT53] at hT54
          have hL54 := own_cpLen (LB := (own_cp (List.replicate 1024 (0 : Int32)) LS (0 : Int32) oA nA)) (LS := LS) (S := ((0 : Int32) + nA)) (o := oB) (n := nB) hL53 (own_up hO53.1 (by decide)) hJ138.2.1
          show own_Fin _ _ _ _ _ _ _ (T54.setTop (mkF m 223 #[.val (.int va), .val (.int vb), .val (.int vc), .val (.int vd), .val (.int ve), .val (.int vf), .val (.ref b1), .val (.int oA), .val (.int nA), .val (.int oB), .val (.int nB), .val (.int oC), .val (.int nC), .val (.int (1 : Int32)), .val (.int (0 : Int32)), .val (.int (1 : Int32)), .val (.ref b51), .unset] []))
          refine own_Fin.go (fun t k => XS.iload X54.here hx rfl (hb hby at_223) rfl k) ?_
          show own_Fin _ _ _ _ _ _ _ (T54.setTop (mkF m 225 #[.val (.int va), .val (.int vb), .val (.int vc), .val (.int vd), .val (.int ve), .val (.int vf), .val (.ref b1), .val (.int oA), .val (.int nA), .val (.int oB), .val (.int nB), .val (.int oC), .val (.int nC), .val (.int (1 : Int32)), .val (.int (0 : Int32)), .val (.int (1 : Int32)), .val (.ref b51), .unset] [(.int (1 : Int32))]))
          refine own_Fin.go (fun t k => XS.ifNo X54.here hx rfl (hb hby at_225) rfl (by decide) k) ?_
          show own_Fin _ _ _ _ _ _ _ (T54.setTop (mkF m 228 #[.val (.int va), .val (.int vb), .val (.int vc), .val (.int vd), .val (.int ve), .val (.int vf), .val (.ref b1), .val (.int oA), .val (.int nA), .val (.int oB), .val (.int nB), .val (.int oC), .val (.int nC), .val (.int (1 : Int32)), .val (.int (0 : Int32)), .val (.int (1 : Int32)), .val (.ref b51), .unset] []))
          refine own_Fin.go (fun t k => XS.aload X54.here hx rfl (hb hby at_228) rfl rfl k) ?_
          show own_Fin _ _ _ _ _ _ _ (T54.setTop (mkF m 230 #[.val (.int va), .val (.int vb), .val (.int vc), .val (.int vd), .val (.int ve), .val (.int vf), .val (.ref b1), .val (.int oA), .val (.int nA), .val (.int oB), .val (.int nB), .val (.int oC), .val (.int nC), .val (.int (1 : Int32)), .val (.int (0 : Int32)), .val (.int (1 : Int32)), .val (.ref b51), .unset] [(.ref b51)]))
          refine own_Fin.go (fun t k => XS.aload X54.here hx rfl (hb hby at_230) rfl rfl k) ?_
          show own_Fin _ _ _ _ _ _ _ (T54.setTop (mkF m 232 #[.val (.int va), .val (.int vb), .val (.int vc), .val (.int vd), .val (.int ve), .val (.int vf), .val (.ref b1), .val (.int oA), .val (.int nA), .val (.int oB), .val (.int nB), .val (.int oC), .val (.int nC), .val (.int (1 : Int32)), .val (.int (0 : Int32)), .val (.int (1 : Int32)), .val (.ref b51), .unset] [(.ref b1), (.ref b51)]))
          refine own_Fin.go (fun t k => XS.iload X54.here hx rfl (hb hby at_232) rfl k) ?_
          show own_Fin _ _ _ _ _ _ _ (T54.setTop (mkF m 234 #[.val (.int va), .val (.int vb), .val (.int vc), .val (.int vd), .val (.int ve), .val (.int vf), .val (.ref b1), .val (.int oA), .val (.int nA), .val (.int oB), .val (.int nB), .val (.int oC), .val (.int nC), .val (.int (1 : Int32)), .val (.int (0 : Int32)), .val (.int (1 : Int32)), .val (.ref b51), .unset] [(.int oC), (.ref b1), (.ref b51)]))
          refine own_Fin.go (fun t k => XS.iload X54.here hx rfl (hb hby at_234) rfl k) ?_
          show own_Fin _ _ _ _ _ _ _ (T54.setTop (mkF m 236 #[.val (.int va), .val (.int vb), .val (.int vc), .val (.int vd), .val (.int ve), .val (.int vf), .val (.ref b1), .val (.int oA), .val (.int nA), .val (.int oB), .val (.int nB), .val (.int oC), .val (.int nC), .val (.int (1 : Int32)), .val (.int (0 : Int32)), .val (.int (1 : Int32)), .val (.ref b51), .unset] [(.int nC), (.int oC), (.ref b1), (.ref b51)]))
          obtain ⟨cq55, kq55, q55a, q55b, q55c⟩ := isOf hZ rfl c54_1
          obtain ⟨_, _, ⟨T55, L55, k55, n55⟩, -, X55, ⟨Lc55, hQ55, l55, y55, z55⟩, st55⟩ := X54.virtualBack hx (y := (⟨"com/example/wardkeeper/wardkeeper/hl7/Lines", "add", "([BII)V"⟩ : MethodName)) (z := (⟨"com/example/wardkeeper/wardkeeper/hl7/Lines", "add", "([BII)V"⟩ : MethodName)) hown (mvT hZ (hw _ (List.mem_of_getElem? (i := 22) rfl))) (mvT hZ (hw _ (List.mem_of_getElem? (i := 23) rfl))) (notFace_of_selects (args := #[]) (mvT hZ (hw _ (List.mem_of_getElem? (i := 25) rfl)))) (mvT hZ (hw _ (List.mem_of_getElem? (i := 25) rfl))) (mvT hZ (hw _ (List.mem_of_getElem? (i := 24) rfl))) (by decide) (backOf (W := 0) (own_rm_add2 l Z a0 hw [] b51 b1 oC nC ob52 kb52 k1 (own_cp (own_cp (List.replicate 1024 (0 : Int32)) LS (0 : Int32) oA nA) LS ((0 : Int32) + nA) oB nB) LS oe52 ke52 ((0 : Int32) + nA) (((0 : Int32) + nA) + nB) (0 : Int32) T54.heap n0 Z54 c54_1 c54_2 c54_3 c54_4 c54_5 c54_6 VS_54 g_b51 g_ob52 g_oe52 c52_9 c52_10 c52_11 ne_b1_b51 ne_b1_ob52 ne_b1_oe52 hJ138.2.2 (own_up hO54.1 (by decide)) hL54) hZ (hw _ (List.mem_of_getElem? (i := 26) rfl)) (hw _ (List.mem_of_getElem? (i := 3) rfl)) (by decide) (by decide)) q55a q55c (g := (mkF m 236 #[.val (.int va), .val (.int vb), .val (.int vc), .val (.int vd), .val (.int ve), .val (.int vf), .val (.ref b1), .val (.int oA), .val (.int nA), .val (.int oB), .val (.int nB), .val (.int oC), .val (.int nC), .val (.int (1 : Int32)), .val (.int (0 : Int32)), .val (.int (1 : Int32)), .val (.ref b51), .unset] [(.int nC), (.int oC), (.ref b1), (.ref b51)])) rfl (by rw [hml]; rfl) (Steps.refl _) (argsL := [(.ref b1), (.int oC), (.int nC)]) (rest := []) (lenOf own_pd4 rfl) rfl (by show 2 * 0 + _ ≤ _; exact Nat.le_of_eq rfl) (hb hby at_236) (fun _ _ => ⟨rfl, rfl, (by decide : 4 + 0 ≤ _), (by decide : 1051 + 0 ≤ _)⟩)
          dsimp only [Pt.U, Pt.locs, Pt.cells, Pt.slots] at X55 l55 y55 z55 st55 hQ55
          subst l55 y55 z55
          obtain ⟨rfl, N55q, K55q, c55_1, c55_2, c55_3, c55_4, c55_5, c55_6⟩ := hQ55
          refine own_Fin.go (fun t k => st55.trans k) ?_
          have N55 := Fr.app N54 N55q
          have VS_55 := VS_54.keep K55q (ninS ne_b1_b51 (ninS ne_b1_ob52 (ninS ne_b1_oe52 nin0)))
          have Z55 := Nat.le_trans Z54 K55q.1
          have hO55 := own_next hO54.1 (by decide) hJ138.2.2
          have hT55 := own_cpTake (LB := (own_cp (own_cp (List.replicate 1024 (0 : Int32)) LS (0 : Int32) oA nA) LS ((0 : Int32) + nA) oB nB)) (LS := LS) (S := (((0 : Int32) + nA) + nB)) (o := oC) (n := nC) hL54 (own_up hO54.1 (by decide)) hJ138.2.2
          rw [← hO55.2, hT54] at hT55
          have hL55 := own_cpLen (LB := (own_cp (own_cp (List.replicate 1024 (0 : Int32)) LS (0 : Int32) oA nA) LS ((0 : Int32) + nA) oB nB)) (LS := LS) (S := (((0 : Int32) + nA) + nB)) (o := oC) (n := nC) hL54 (own_up hO54.1 (by decide)) hJ138.2.2
          show own_Fin _ _ _ _ _ _ _ (T55.setTop (mkF m 239 #[.val (.int va), .val (.int vb), .val (.int vc), .val (.int vd), .val (.int ve), .val (.int vf), .val (.ref b1), .val (.int oA), .val (.int nA), .val (.int oB), .val (.int nB), .val (.int oC), .val (.int nC), .val (.int (1 : Int32)), .val (.int (0 : Int32)), .val (.int (1 : Int32)), .val (.ref b51), .unset] []))
          refine own_Fin.go (fun t k => XS.iload X55.here hx rfl (hb hby at_239) rfl k) ?_
          show own_Fin _ _ _ _ _ _ _ (T55.setTop (mkF m 241 #[.val (.int va), .val (.int vb), .val (.int vc), .val (.int vd), .val (.int ve), .val (.int vf), .val (.ref b1), .val (.int oA), .val (.int nA), .val (.int oB), .val (.int nB), .val (.int oC), .val (.int nC), .val (.int (1 : Int32)), .val (.int (0 : Int32)), .val (.int (1 : Int32)), .val (.ref b51), .unset] [(.int (1 : Int32))]))
          refine own_Fin.go (fun t k => XS.ifNo X55.here hx rfl (hb hby at_241) rfl (by decide) k) ?_
          show own_Fin _ _ _ _ _ _ _ (T55.setTop (mkF m 244 #[.val (.int va), .val (.int vb), .val (.int vc), .val (.int vd), .val (.int ve), .val (.int vf), .val (.ref b1), .val (.int oA), .val (.int nA), .val (.int oB), .val (.int nB), .val (.int oC), .val (.int nC), .val (.int (1 : Int32)), .val (.int (0 : Int32)), .val (.int (1 : Int32)), .val (.ref b51), .unset] []))
          refine own_Fin.go (fun t k => XS.iload X55.here hx rfl (hb hby at_244) rfl k) ?_
          show own_Fin _ _ _ _ _ _ _ (T55.setTop (mkF m 246 #[.val (.int va), .val (.int vb), .val (.int vc), .val (.int vd), .val (.int ve), .val (.int vf), .val (.ref b1), .val (.int oA), .val (.int nA), .val (.int oB), .val (.int nB), .val (.int oC), .val (.int nC), .val (.int (1 : Int32)), .val (.int (0 : Int32)), .val (.int (1 : Int32)), .val (.ref b51), .unset] [(.int (0 : Int32))]))
          refine own_Fin.go (fun t k => XS.ifNo X55.here hx rfl (hb hby at_246) rfl (by decide) k) ?_
          show own_Fin _ _ _ _ _ _ _ (T55.setTop (mkF m 249 #[.val (.int va), .val (.int vb), .val (.int vc), .val (.int vd), .val (.int ve), .val (.int vf), .val (.ref b1), .val (.int oA), .val (.int nA), .val (.int oB), .val (.int nB), .val (.int oC), .val (.int nC), .val (.int (1 : Int32)), .val (.int (0 : Int32)), .val (.int (1 : Int32)), .val (.ref b51), .unset] []))
          refine own_Fin.go (fun t k => XS.aload X55.here hx rfl (hb hby at_249) rfl rfl k) ?_
          show own_Fin _ _ _ _ _ _ _ (T55.setTop (mkF m 251 #[.val (.int va), .val (.int vb), .val (.int vc), .val (.int vd), .val (.int ve), .val (.int vf), .val (.ref b1), .val (.int oA), .val (.int nA), .val (.int oB), .val (.int nB), .val (.int oC), .val (.int nC), .val (.int (1 : Int32)), .val (.int (0 : Int32)), .val (.int (1 : Int32)), .val (.ref b51), .unset] [(.ref b1)]))
          refine own_Fin.go (fun t k => XS.iload X55.here hx rfl (hb hby at_251) rfl k) ?_
          show own_Fin _ _ _ _ _ _ _ (T55.setTop (mkF m 253 #[.val (.int va), .val (.int vb), .val (.int vc), .val (.int vd), .val (.int ve), .val (.int vf), .val (.ref b1), .val (.int oA), .val (.int nA), .val (.int oB), .val (.int nB), .val (.int oC), .val (.int nC), .val (.int (1 : Int32)), .val (.int (0 : Int32)), .val (.int (1 : Int32)), .val (.ref b51), .unset] [(.int oA), (.ref b1)]))
          refine own_Fin.go (fun t k => XS.iload X55.here hx rfl (hb hby at_253) rfl k) ?_
          show own_Fin _ _ _ _ _ _ _ (T55.setTop (mkF m 255 #[.val (.int va), .val (.int vb), .val (.int vc), .val (.int vd), .val (.int ve), .val (.int vf), .val (.ref b1), .val (.int oA), .val (.int nA), .val (.int oB), .val (.int nB), .val (.int oC), .val (.int nC), .val (.int (1 : Int32)), .val (.int (0 : Int32)), .val (.int (1 : Int32)), .val (.ref b51), .unset] [(.int nA), (.int oA), (.ref b1)]))
          obtain ⟨_, _, ⟨T56, L56, k56, n56⟩, -, X56, ⟨Lc56, hQ56, l56, y56, z56⟩, st56⟩ := Jvm.LawKit.callS X55 hx (y := (⟨"com/example/wardkeeper/wardkeeper/hl7/LinesAllAsciiPinLaw", "bad", "([BII)Z"⟩ : MethodName)) hown (mvT hZ (hw _ (List.mem_of_getElem? (i := 35) rfl))) (mvT hZ (hw _ (List.mem_of_getElem? (i := 36) rfl))) (mvT hZ (hw _ (List.mem_of_getElem? (i := 37) rfl))) (mvT hZ (hw _ (List.mem_of_getElem? (i := 38) rfl))) (by decide) (backOf (W := 0) (own_rm_bad l Z a0 hw [] b1 oA nA k1 LS T55.heap n0 Z55 VS_55) hZ (hw _ (List.mem_of_getElem? (i := 38) rfl)) (hw _ (List.mem_of_getElem? (i := 37) rfl)) (by decide) (by decide)) (g := (mkF m 255 #[.val (.int va), .val (.int vb), .val (.int vc), .val (.int vd), .val (.int ve), .val (.int vf), .val (.ref b1), .val (.int oA), .val (.int nA), .val (.int oB), .val (.int nB), .val (.int oC), .val (.int nC), .val (.int (1 : Int32)), .val (.int (0 : Int32)), .val (.int (1 : Int32)), .val (.ref b51), .unset] [(.int nA), (.int oA), (.ref b1)])) rfl (by rw [hml]; rfl) (argsL := [(.ref b1), (.int oA), (.int nA)]) (rest := []) (lenOf own_pd5 rfl) rfl (by show 2 * 0 + _ ≤ _; exact Nat.le_of_eq rfl) (hb hby at_255) (fun _ _ => ⟨rfl, rfl, (by decide : 4 + 0 ≤ _), (by decide : 1051 + 0 ≤ _)⟩)
          dsimp only [Pt.U, Pt.locs, Pt.cells, Pt.slots] at X56 l56 y56 z56 st56 hQ56
          subst l56 y56 z56
          obtain ⟨rfl, N56q, e56⟩ := hQ56
          refine own_Fin.go (fun t k => st56 t k) ?_
          have N56 := Fr.app N55 N56q
          show own_Fin _ _ _ _ _ _ _ (T56.setTop (mkF m 258 #[.val (.int va), .val (.int vb), .val (.int vc), .val (.int vd), .val (.int ve), .val (.int vf), .val (.ref b1), .val (.int oA), .val (.int nA), .val (.int oB), .val (.int nB), .val (.int oC), .val (.int nC), .val (.int (1 : Int32)), .val (.int (0 : Int32)), .val (.int (1 : Int32)), .val (.ref b51), .unset] [(.int (own_bad LS oA nA))]))
          by_cases hc258 : (own_bad LS oA nA) = (0 : Int32)
          · refine own_Fin.go (fun t k => XS.ifNo X56.here hx rfl (hb hby at_258) rfl (Jvm.Free.XT.i0_ne_f hc258) k) ?_
            show own_Fin _ _ _ _ _ _ _ (T56.setTop (mkF m 261 #[.val (.int va), .val (.int vb), .val (.int vc), .val (.int vd), .val (.int ve), .val (.int vf), .val (.ref b1), .val (.int oA), .val (.int nA), .val (.int oB), .val (.int nB), .val (.int oC), .val (.int nC), .val (.int (1 : Int32)), .val (.int (0 : Int32)), .val (.int (1 : Int32)), .val (.ref b51), .unset] []))
            refine own_Fin.go (fun t k => XS.aload X56.here hx rfl (hb hby at_261) rfl rfl k) ?_
            show own_Fin _ _ _ _ _ _ _ (T56.setTop (mkF m 263 #[.val (.int va), .val (.int vb), .val (.int vc), .val (.int vd), .val (.int ve), .val (.int vf), .val (.ref b1), .val (.int oA), .val (.int nA), .val (.int oB), .val (.int nB), .val (.int oC), .val (.int nC), .val (.int (1 : Int32)), .val (.int (0 : Int32)), .val (.int (1 : Int32)), .val (.ref b51), .unset] [(.ref b1)]))
            refine own_Fin.go (fun t k => XS.iload X56.here hx rfl (hb hby at_263) rfl k) ?_
            show own_Fin _ _ _ _ _ _ _ (T56.setTop (mkF m 265 #[.val (.int va), .val (.int vb), .val (.int vc), .val (.int vd), .val (.int ve), .val (.int vf), .val (.ref b1), .val (.int oA), .val (.int nA), .val (.int oB), .val (.int nB), .val (.int oC), .val (.int nC), .val (.int (1 : Int32)), .val (.int (0 : Int32)), .val (.int (1 : Int32)), .val (.ref b51), .unset] [(.int oB), (.ref b1)]))
            refine own_Fin.go (fun t k => XS.iload X56.here hx rfl (hb hby at_265) rfl k) ?_
            show own_Fin _ _ _ _ _ _ _ (T56.setTop (mkF m 267 #[.val (.int va), .val (.int vb), .val (.int vc), .val (.int vd), .val (.int ve), .val (.int vf), .val (.ref b1), .val (.int oA), .val (.int nA), .val (.int oB), .val (.int nB), .val (.int oC), .val (.int nC), .val (.int (1 : Int32)), .val (.int (0 : Int32)), .val (.int (1 : Int32)), .val (.ref b51), .unset] [(.int nB), (.int oB), (.ref b1)]))
            obtain ⟨_, _, ⟨T57, L57, k57, n57⟩, -, X57, ⟨Lc57, hQ57, l57, y57, z57⟩, st57⟩ := Jvm.LawKit.callS X56 hx (y := (⟨"com/example/wardkeeper/wardkeeper/hl7/LinesAllAsciiPinLaw", "bad", "([BII)Z"⟩ : MethodName)) hown (mvT hZ (hw _ (List.mem_of_getElem? (i := 35) rfl))) (mvT hZ (hw _ (List.mem_of_getElem? (i := 36) rfl))) (mvT hZ (hw _ (List.mem_of_getElem? (i := 37) rfl))) (mvT hZ (hw _ (List.mem_of_getElem? (i := 38) rfl))) (by decide) (backOf (W := 0) (own_rm_bad l Z a0 hw [] b1 oB nB k1 LS T55.heap n0 Z55 VS_55) hZ (hw _ (List.mem_of_getElem? (i := 38) rfl)) (hw _ (List.mem_of_getElem? (i := 37) rfl)) (by decide) (by decide)) (g := (mkF m 267 #[.val (.int va), .val (.int vb), .val (.int vc), .val (.int vd), .val (.int ve), .val (.int vf), .val (.ref b1), .val (.int oA), .val (.int nA), .val (.int oB), .val (.int nB), .val (.int oC), .val (.int nC), .val (.int (1 : Int32)), .val (.int (0 : Int32)), .val (.int (1 : Int32)), .val (.ref b51), .unset] [(.int nB), (.int oB), (.ref b1)])) rfl (by rw [hml]; rfl) (argsL := [(.ref b1), (.int oB), (.int nB)]) (rest := []) (lenOf own_pd5 rfl) rfl (by show 2 * 0 + _ ≤ _; exact Nat.le_of_eq rfl) (hb hby at_267) (fun _ _ => ⟨rfl, e56, (by decide : 4 + 0 ≤ _), (by decide : 1051 + 0 ≤ _)⟩)
            dsimp only [Pt.U, Pt.locs, Pt.cells, Pt.slots] at X57 l57 y57 z57 st57 hQ57
            subst l57 y57 z57
            obtain ⟨rfl, N57q, e57⟩ := hQ57
            refine own_Fin.go (fun t k => st57 t k) ?_
            have N57 := Fr.app N56 N57q
            show own_Fin _ _ _ _ _ _ _ (T57.setTop (mkF m 270 #[.val (.int va), .val (.int vb), .val (.int vc), .val (.int vd), .val (.int ve), .val (.int vf), .val (.ref b1), .val (.int oA), .val (.int nA), .val (.int oB), .val (.int nB), .val (.int oC), .val (.int nC), .val (.int (1 : Int32)), .val (.int (0 : Int32)), .val (.int (1 : Int32)), .val (.ref b51), .unset] [(.int (own_bad LS oB nB))]))
            by_cases hc270 : (own_bad LS oB nB) = (0 : Int32)
            · refine own_Fin.go (fun t k => XS.ifNo X57.here hx rfl (hb hby at_270) rfl (Jvm.Free.XT.i0_ne_f hc270) k) ?_
              show own_Fin _ _ _ _ _ _ _ (T57.setTop (mkF m 273 #[.val (.int va), .val (.int vb), .val (.int vc), .val (.int vd), .val (.int ve), .val (.int vf), .val (.ref b1), .val (.int oA), .val (.int nA), .val (.int oB), .val (.int nB), .val (.int oC), .val (.int nC), .val (.int (1 : Int32)), .val (.int (0 : Int32)), .val (.int (1 : Int32)), .val (.ref b51), .unset] []))
              refine own_Fin.go (fun t k => XS.iload X57.here hx rfl (hb hby at_273) rfl k) ?_
              show own_Fin _ _ _ _ _ _ _ (T57.setTop (mkF m 275 #[.val (.int va), .val (.int vb), .val (.int vc), .val (.int vd), .val (.int ve), .val (.int vf), .val (.ref b1), .val (.int oA), .val (.int nA), .val (.int oB), .val (.int nB), .val (.int oC), .val (.int nC), .val (.int (1 : Int32)), .val (.int (0 : Int32)), .val (.int (1 : Int32)), .val (.ref b51), .unset] [(.int (1 : Int32))]))
              refine own_Fin.go (fun t k => XS.ifNo X57.here hx rfl (hb hby at_275) rfl (by decide) k) ?_
              show own_Fin _ _ _ _ _ _ _ (T57.setTop (mkF m 278 #[.val (.int va), .val (.int vb), .val (.int vc), .val (.int vd), .val (.int ve), .val (.int vf), .val (.ref b1), .val (.int oA), .val (.int nA), .val (.int oB), .val (.int nB), .val (.int oC), .val (.int nC), .val (.int (1 : Int32)), .val (.int (0 : Int32)), .val (.int (1 : Int32)), .val (.ref b51), .unset] []))
              refine own_Fin.go (fun t k => XS.aload X57.here hx rfl (hb hby at_278) rfl rfl k) ?_
              show own_Fin _ _ _ _ _ _ _ (T57.setTop (mkF m 280 #[.val (.int va), .val (.int vb), .val (.int vc), .val (.int vd), .val (.int ve), .val (.int vf), .val (.ref b1), .val (.int oA), .val (.int nA), .val (.int oB), .val (.int nB), .val (.int oC), .val (.int nC), .val (.int (1 : Int32)), .val (.int (0 : Int32)), .val (.int (1 : Int32)), .val (.ref b51), .unset] [(.ref b1)]))
              refine own_Fin.go (fun t k => XS.iload X57.here hx rfl (hb hby at_280) rfl k) ?_
              show own_Fin _ _ _ _ _ _ _ (T57.setTop (mkF m 282 #[.val (.int va), .val (.int vb), .val (.int vc), .val (.int vd), .val (.int ve), .val (.int vf), .val (.ref b1), .val (.int oA), .val (.int nA), .val (.int oB), .val (.int nB), .val (.int oC), .val (.int nC), .val (.int (1 : Int32)), .val (.int (0 : Int32)), .val (.int (1 : Int32)), .val (.ref b51), .unset] [(.int oC), (.ref b1)]))
              refine own_Fin.go (fun t k => XS.iload X57.here hx rfl (hb hby at_282) rfl k) ?_
              show own_Fin _ _ _ _ _ _ _ (T57.setTop (mkF m 284 #[.val (.int va), .val (.int vb), .val (.int vc), .val (.int vd), .val (.int ve), .val (.int vf), .val (.ref b1), .val (.int oA), .val (.int nA), .val (.int oB), .val (.int nB), .val (.int oC), .val (.int nC), .val (.int (1 : Int32)), .val (.int (0 : Int32)), .val (.int (1 : Int32)), .val (.ref b51), .unset] [(.int nC), (.int oC), (.ref b1)]))
              obtain ⟨_, _, ⟨T58, L58, k58, n58⟩, -, X58, ⟨Lc58, hQ58, l58, y58, z58⟩, st58⟩ := Jvm.LawKit.callS X57 hx (y := (⟨"com/example/wardkeeper/wardkeeper/hl7/LinesAllAsciiPinLaw", "bad", "([BII)Z"⟩ : MethodName)) hown (mvT hZ (hw _ (List.mem_of_getElem? (i := 35) rfl))) (mvT hZ (hw _ (List.mem_of_getElem? (i := 36) rfl))) (mvT hZ (hw _ (List.mem_of_getElem? (i := 37) rfl))) (mvT hZ (hw _ (List.mem_of_getElem? (i := 38) rfl))) (by decide) (backOf (W := 0) (own_rm_bad l Z a0 hw [] b1 oC nC k1 LS T55.heap n0 Z55 VS_55) hZ (hw _ (List.mem_of_getElem? (i := 38) rfl)) (hw _ (List.mem_of_getElem? (i := 37) rfl)) (by decide) (by decide)) (g := (mkF m 284 #[.val (.int va), .val (.int vb), .val (.int vc), .val (.int vd), .val (.int ve), .val (.int vf), .val (.ref b1), .val (.int oA), .val (.int nA), .val (.int oB), .val (.int nB), .val (.int oC), .val (.int nC), .val (.int (1 : Int32)), .val (.int (0 : Int32)), .val (.int (1 : Int32)), .val (.ref b51), .unset] [(.int nC), (.int oC), (.ref b1)])) rfl (by rw [hml]; rfl) (argsL := [(.ref b1), (.int oC), (.int nC)]) (rest := []) (lenOf own_pd5 rfl) rfl (by show 2 * 0 + _ ≤ _; exact Nat.le_of_eq rfl) (hb hby at_284) (fun _ _ => ⟨rfl, e57, (by decide : 4 + 0 ≤ _), (by decide : 1051 + 0 ≤ _)⟩)
              dsimp only [Pt.U, Pt.locs, Pt.cells, Pt.slots] at X58 l58 y58 z58 st58 hQ58
              subst l58 y58 z58
              obtain ⟨rfl, N58q, e58⟩ := hQ58
              refine own_Fin.go (fun t k => st58 t k) ?_
              have N58 := Fr.app N57 N58q
              show own_Fin _ _ _ _ _ _ _ (T58.setTop (mkF m 287 #[.val (.int va), .val (.int vb), .val (.int vc), .val (.int vd), .val (.int ve), .val (.int vf), .val (.ref b1), .val (.int oA), .val (.int nA), .val (.int oB), .val (.int nB), .val (.int oC), .val (.int nC), .val (.int (1 : Int32)), .val (.int (0 : Int32)), .val (.int (1 : Int32)), .val (.ref b51), .unset] [(.int (own_bad LS oC nC))]))
              by_cases hc287 : (own_bad LS oC nC) = (0 : Int32)
              · refine own_Fin.go (fun t k => XS.ifNo X58.here hx rfl (hb hby at_287) rfl (Jvm.Free.XT.i0_ne_f hc287) k) ?_
                show own_Fin _ _ _ _ _ _ _ (T58.setTop (mkF m 290 #[.val (.int va), .val (.int vb), .val (.int vc), .val (.int vd), .val (.int ve), .val (.int vf), .val (.ref b1), .val (.int oA), .val (.int nA), .val (.int oB), .val (.int nB), .val (.int oC), .val (.int nC), .val (.int (1 : Int32)), .val (.int (0 : Int32)), .val (.int (1 : Int32)), .val (.ref b51), .unset] []))
                refine own_Fin.go (fun t k => XS.iconst X58.here hx rfl (hb hby at_290) k) ?_
                show own_Fin _ _ _ _ _ _ _ (T58.setTop (mkF m 291 #[.val (.int va), .val (.int vb), .val (.int vc), .val (.int vd), .val (.int ve), .val (.int vf), .val (.ref b1), .val (.int oA), .val (.int nA), .val (.int oB), .val (.int nB), .val (.int oC), .val (.int nC), .val (.int (1 : Int32)), .val (.int (0 : Int32)), .val (.int (1 : Int32)), .val (.ref b51), .unset] [(.int (1 : Int32))]))
                refine own_Fin.go (fun t k => XS.goto X58.here hx rfl (pc0 := 291) (pc' := 295) rfl (hb hby at_291) (by decide) (by decide) k) ?_
                show own_Fin _ _ _ _ _ _ _ (T58.setTop (mkF m 295 #[.val (.int va), .val (.int vb), .val (.int vc), .val (.int vd), .val (.int ve), .val (.int vf), .val (.ref b1), .val (.int oA), .val (.int nA), .val (.int oB), .val (.int nB), .val (.int oC), .val (.int nC), .val (.int (1 : Int32)), .val (.int (0 : Int32)), .val (.int (1 : Int32)), .val (.ref b51), .unset] [(.int (1 : Int32))]))
                refine own_Fin.go (fun t k => XS.istore X58.here hx rfl (hb hby at_295) rfl (l' := #[.val (.int va), .val (.int vb), .val (.int vc), .val (.int vd), .val (.int ve), .val (.int vf), .val (.ref b1), .val (.int oA), .val (.int nA), .val (.int oB), .val (.int nB), .val (.int oC), .val (.int nC), .val (.int (1 : Int32)), .val (.int (0 : Int32)), .val (.int (1 : Int32)), .val (.ref b51), .val (.int (1 : Int32))]) rfl k) ?_
                show own_Fin _ _ _ _ _ _ _ (T58.setTop (mkF m 297 #[.val (.int va), .val (.int vb), .val (.int vc), .val (.int vd), .val (.int ve), .val (.int vf), .val (.ref b1), .val (.int oA), .val (.int nA), .val (.int oB), .val (.int nB), .val (.int oC), .val (.int nC), .val (.int (1 : Int32)), .val (.int (0 : Int32)), .val (.int (1 : Int32)), .val (.ref b51), .val (.int (1 : Int32))] []))
                refine own_Fin.go (fun t k => XS.aload X58.here hx rfl (hb hby at_297) rfl rfl k) ?_
                show own_Fin _ _ _ _ _ _ _ (T58.setTop (mkF m 299 #[.val (.int va), .val (.int vb), .val (.int vc), .val (.int vd), .val (.int ve), .val (.int vf), .val (.ref b1), .val (.int oA), .val (.int nA), .val (.int oB), .val (.int nB), .val (.int oC), .val (.int nC), .val (.int (1 : Int32)), .val (.int (0 : Int32)), .val (.int (1 : Int32)), .val (.ref b51), .val (.int (1 : Int32))] [(.ref b51)]))
                obtain ⟨cq59, kq59, q59a, q59b, q59c⟩ := isOf hZ e58 c55_1
                obtain ⟨_, _, ⟨T59, L59, k59, n59⟩, -, X59, ⟨Lc59, hQ59, l59, y59, z59⟩, st59⟩ := X58.virtualBack hx (y := (⟨"com/example/wardkeeper/wardkeeper/hl7/Lines", "allAscii", "()Z"⟩ : MethodName)) (z := (⟨"com/example/wardkeeper/wardkeeper/hl7/Lines", "allAscii", "()Z"⟩ : MethodName)) hown (mvT hZ (hw _ (List.mem_of_getElem? (i := 42) rfl))) (mvT hZ (hw _ (List.mem_of_getElem? (i := 43) rfl))) (notFace_of_selects (args := #[]) (mvT hZ (hw _ (List.mem_of_getElem? (i := 45) rfl)))) (mvT hZ (hw _ (List.mem_of_getElem? (i := 45) rfl))) (mvT hZ (hw _ (List.mem_of_getElem? (i := 44) rfl))) (by decide) (backOf (W := 0) (own_rm_aa3 l Z a0 hw [] b51 ob52 kb52 (own_cp (own_cp (own_cp (List.replicate 1024 (0 : Int32)) LS (0 : Int32) oA nA) LS ((0 : Int32) + nA) oB nB) LS (((0 : Int32) + nA) + nB) oC nC) oe52 ke52 ((0 : Int32) + nA) (((0 : Int32) + nA) + nB) ((((0 : Int32) + nA) + nB) + nC) T55.heap n0 Z55 c55_1 c55_2 c55_3 c55_4 c55_5 c55_6 (own_up hO55.1 (by decide)) hL55) hZ (hw _ (List.mem_of_getElem? (i := 46) rfl)) (hw _ (List.mem_of_getElem? (i := 3) rfl)) (by decide) (by decide)) q59a q59c (g := (mkF m 299 #[.val (.int va), .val (.int vb), .val (.int vc), .val (.int vd), .val (.int ve), .val (.int vf), .val (.ref b1), .val (.int oA), .val (.int nA), .val (.int oB), .val (.int nB), .val (.int oC), .val (.int nC), .val (.int (1 : Int32)), .val (.int (0 : Int32)), .val (.int (1 : Int32)), .val (.ref b51), .val (.int (1 : Int32))] [(.ref b51)])) rfl (by rw [hml]; rfl) (Steps.refl _) (argsL := []) (rest := []) (lenOf own_pd6 rfl) rfl (by show 2 * 0 + _ ≤ _; exact Nat.le_of_eq rfl) (hb hby at_299) (fun _ _ => ⟨rfl, e58, (by decide : 4 + 0 ≤ _), (by decide : 1051 + 0 ≤ _)⟩)
                dsimp only [Pt.U, Pt.locs, Pt.cells, Pt.slots] at X59 l59 y59 z59 st59 hQ59
                subst l59 y59 z59
                obtain ⟨rfl, N59q, e59⟩ := hQ59
                refine own_Fin.go (fun t k => st59.trans k) ?_
                have N59 := Fr.app N58 N59q
                show own_Fin _ _ _ _ _ _ _ (T59.setTop (mkF m 302 #[.val (.int va), .val (.int vb), .val (.int vc), .val (.int vd), .val (.int ve), .val (.int vf), .val (.ref b1), .val (.int oA), .val (.int nA), .val (.int oB), .val (.int nB), .val (.int oC), .val (.int nC), .val (.int (1 : Int32)), .val (.int (0 : Int32)), .val (.int (1 : Int32)), .val (.ref b51), .val (.int (1 : Int32))] [(.int (own_all (own_cp (own_cp (own_cp (List.replicate 1024 (0 : Int32)) LS (0 : Int32) oA nA) LS ((0 : Int32) + nA) oB nB) LS (((0 : Int32) + nA) + nB) oC nC) ((((0 : Int32) + nA) + nB) + nC)))]))
                refine own_Fin.go (fun t k => XS.iload X59.here hx rfl (hb hby at_302) rfl k) ?_
                show own_Fin _ _ _ _ _ _ _ (T59.setTop (mkF m 304 #[.val (.int va), .val (.int vb), .val (.int vc), .val (.int vd), .val (.int ve), .val (.int vf), .val (.ref b1), .val (.int oA), .val (.int nA), .val (.int oB), .val (.int nB), .val (.int oC), .val (.int nC), .val (.int (1 : Int32)), .val (.int (0 : Int32)), .val (.int (1 : Int32)), .val (.ref b51), .val (.int (1 : Int32))] [(.int (1 : Int32)), (.int (own_all (own_cp (own_cp (own_cp (List.replicate 1024 (0 : Int32)) LS (0 : Int32) oA nA) LS ((0 : Int32) + nA) oB nB) LS (((0 : Int32) + nA) + nB) oC nC) ((((0 : Int32) + nA) + nB) + nC)))]))
                have hc304 : (own_all (own_cp (own_cp (own_cp (List.replicate 1024 (0 : Int32)) LS (0 : Int32) oA nA) LS ((0 : Int32) + nA) oB nB) LS (((0 : Int32) + nA) + nB) oC nC) ((((0 : Int32) + nA) + nB) + nC)) = (1 : Int32) := own_all1 hT55 (own_app (own_app (own_app own_nil (own_good hJ138.1 hc258)) (own_good hJ138.2.1 hc270)) (own_good hJ138.2.2 hc287))
                refine own_Fin.go (fun t k => XS.icmpNo X59.here hx rfl (hb hby at_304) rfl (Jvm.Free.XT.ii_ne_f hc304) k) ?_
                show own_Fin _ _ _ _ _ _ _ (T59.setTop (mkF m 307 #[.val (.int va), .val (.int vb), .val (.int vc), .val (.int vd), .val (.int ve), .val (.int vf), .val (.ref b1), .val (.int oA), .val (.int nA), .val (.int oB), .val (.int nB), .val (.int oC), .val (.int nC), .val (.int (1 : Int32)), .val (.int (0 : Int32)), .val (.int (1 : Int32)), .val (.ref b51), .val (.int (1 : Int32))] []))
                refine own_Fin.go (fun t k => XS.iconst X59.here hx rfl (hb hby at_307) k) ?_
                show own_Fin _ _ _ _ _ _ _ (T59.setTop (mkF m 308 #[.val (.int va), .val (.int vb), .val (.int vc), .val (.int vd), .val (.int ve), .val (.int vf), .val (.ref b1), .val (.int oA), .val (.int nA), .val (.int oB), .val (.int nB), .val (.int oC), .val (.int nC), .val (.int (1 : Int32)), .val (.int (0 : Int32)), .val (.int (1 : Int32)), .val (.ref b51), .val (.int (1 : Int32))] [(.int (1 : Int32))]))
                refine own_Fin.go (fun t k => XS.goto X59.here hx rfl (pc0 := 308) (pc' := 312) rfl (hb hby at_308) (by decide) (by decide) k) ?_
                show own_Fin _ _ _ _ _ _ _ (T59.setTop (mkF m 312 #[.val (.int va), .val (.int vb), .val (.int vc), .val (.int vd), .val (.int ve), .val (.int vf), .val (.ref b1), .val (.int oA), .val (.int nA), .val (.int oB), .val (.int nB), .val (.int oC), .val (.int nC), .val (.int (1 : Int32)), .val (.int (0 : Int32)), .val (.int (1 : Int32)), .val (.ref b51), .val (.int (1 : Int32))] [(.int (1 : Int32))]))
                refine own_retN X59 hx (t := .boolean) (w := (1 : Int32)) Bd.returns (by simp) (hb hby at_312) Bd.notSynchronized rfl (by decide) (by decide) ?_
                rw [e59]
                exact ⟨rfl, N59⟩
              · refine own_Fin.go (fun t k => XS.ifYes X58.here hx rfl (pc0 := 287) (pc' := 294) rfl (hb hby at_287) rfl (Jvm.Free.XT.i0_ne_t hc287) (by decide) (by decide) k) ?_
                show own_Fin _ _ _ _ _ _ _ (T58.setTop (mkF m 294 #[.val (.int va), .val (.int vb), .val (.int vc), .val (.int vd), .val (.int ve), .val (.int vf), .val (.ref b1), .val (.int oA), .val (.int nA), .val (.int oB), .val (.int nB), .val (.int oC), .val (.int nC), .val (.int (1 : Int32)), .val (.int (0 : Int32)), .val (.int (1 : Int32)), .val (.ref b51), .unset] []))
                refine own_Fin.go (fun t k => XS.iconst X58.here hx rfl (hb hby at_294) k) ?_
                show own_Fin _ _ _ _ _ _ _ (T58.setTop (mkF m 295 #[.val (.int va), .val (.int vb), .val (.int vc), .val (.int vd), .val (.int ve), .val (.int vf), .val (.ref b1), .val (.int oA), .val (.int nA), .val (.int oB), .val (.int nB), .val (.int oC), .val (.int nC), .val (.int (1 : Int32)), .val (.int (0 : Int32)), .val (.int (1 : Int32)), .val (.ref b51), .unset] [(.int (0 : Int32))]))
                refine own_Fin.go (fun t k => XS.istore X58.here hx rfl (hb hby at_295) rfl (l' := #[.val (.int va), .val (.int vb), .val (.int vc), .val (.int vd), .val (.int ve), .val (.int vf), .val (.ref b1), .val (.int oA), .val (.int nA), .val (.int oB), .val (.int nB), .val (.int oC), .val (.int nC), .val (.int (1 : Int32)), .val (.int (0 : Int32)), .val (.int (1 : Int32)), .val (.ref b51), .val (.int (0 : Int32))]) rfl k) ?_
                show own_Fin _ _ _ _ _ _ _ (T58.setTop (mkF m 297 #[.val (.int va), .val (.int vb), .val (.int vc), .val (.int vd), .val (.int ve), .val (.int vf), .val (.ref b1), .val (.int oA), .val (.int nA), .val (.int oB), .val (.int nB), .val (.int oC), .val (.int nC), .val (.int (1 : Int32)), .val (.int (0 : Int32)), .val (.int (1 : Int32)), .val (.ref b51), .val (.int (0 : Int32))] []))
                refine own_Fin.go (fun t k => XS.aload X58.here hx rfl (hb hby at_297) rfl rfl k) ?_
                show own_Fin _ _ _ _ _ _ _ (T58.setTop (mkF m 299 #[.val (.int va), .val (.int vb), .val (.int vc), .val (.int vd), .val (.int ve), .val (.int vf), .val (.ref b1), .val (.int oA), .val (.int nA), .val (.int oB), .val (.int nB), .val (.int oC), .val (.int nC), .val (.int (1 : Int32)), .val (.int (0 : Int32)), .val (.int (1 : Int32)), .val (.ref b51), .val (.int (0 : Int32))] [(.ref b51)]))
                obtain ⟨cq60, kq60, q60a, q60b, q60c⟩ := isOf hZ e58 c55_1
                obtain ⟨_, _, ⟨T60, L60, k60, n60⟩, -, X60, ⟨Lc60, hQ60, l60, y60, z60⟩, st60⟩ := X58.virtualBack hx (y := (⟨"com/example/wardkeeper/wardkeeper/hl7/Lines", "allAscii", "()Z"⟩ : MethodName)) (z := (⟨"com/example/wardkeeper/wardkeeper/hl7/Lines", "allAscii", "()Z"⟩ : MethodName)) hown (mvT hZ (hw _ (List.mem_of_getElem? (i := 42) rfl))) (mvT hZ (hw _ (List.mem_of_getElem? (i := 43) rfl))) (notFace_of_selects (args := #[]) (mvT hZ (hw _ (List.mem_of_getElem? (i := 45) rfl)))) (mvT hZ (hw _ (List.mem_of_getElem? (i := 45) rfl))) (mvT hZ (hw _ (List.mem_of_getElem? (i := 44) rfl))) (by decide) (backOf (W := 0) (own_rm_aa3 l Z a0 hw [] b51 ob52 kb52 (own_cp (own_cp (own_cp (List.replicate 1024 (0 : Int32)) LS (0 : Int32) oA nA) LS ((0 : Int32) + nA) oB nB) LS (((0 : Int32) + nA) + nB) oC nC) oe52 ke52 ((0 : Int32) + nA) (((0 : Int32) + nA) + nB) ((((0 : Int32) + nA) + nB) + nC) T55.heap n0 Z55 c55_1 c55_2 c55_3 c55_4 c55_5 c55_6 (own_up hO55.1 (by decide)) hL55) hZ (hw _ (List.mem_of_getElem? (i := 46) rfl)) (hw _ (List.mem_of_getElem? (i := 3) rfl)) (by decide) (by decide)) q60a q60c (g := (mkF m 299 #[.val (.int va), .val (.int vb), .val (.int vc), .val (.int vd), .val (.int ve), .val (.int vf), .val (.ref b1), .val (.int oA), .val (.int nA), .val (.int oB), .val (.int nB), .val (.int oC), .val (.int nC), .val (.int (1 : Int32)), .val (.int (0 : Int32)), .val (.int (1 : Int32)), .val (.ref b51), .val (.int (0 : Int32))] [(.ref b51)])) rfl (by rw [hml]; rfl) (Steps.refl _) (argsL := []) (rest := []) (lenOf own_pd6 rfl) rfl (by show 2 * 0 + _ ≤ _; exact Nat.le_of_eq rfl) (hb hby at_299) (fun _ _ => ⟨rfl, e58, (by decide : 4 + 0 ≤ _), (by decide : 1051 + 0 ≤ _)⟩)
                dsimp only [Pt.U, Pt.locs, Pt.cells, Pt.slots] at X60 l60 y60 z60 st60 hQ60
                subst l60 y60 z60
                obtain ⟨rfl, N60q, e60⟩ := hQ60
                refine own_Fin.go (fun t k => st60.trans k) ?_
                have N60 := Fr.app N58 N60q
                show own_Fin _ _ _ _ _ _ _ (T60.setTop (mkF m 302 #[.val (.int va), .val (.int vb), .val (.int vc), .val (.int vd), .val (.int ve), .val (.int vf), .val (.ref b1), .val (.int oA), .val (.int nA), .val (.int oB), .val (.int nB), .val (.int oC), .val (.int nC), .val (.int (1 : Int32)), .val (.int (0 : Int32)), .val (.int (1 : Int32)), .val (.ref b51), .val (.int (0 : Int32))] [(.int (own_all (own_cp (own_cp (own_cp (List.replicate 1024 (0 : Int32)) LS (0 : Int32) oA nA) LS ((0 : Int32) + nA) oB nB) LS (((0 : Int32) + nA) + nB) oC nC) ((((0 : Int32) + nA) + nB) + nC)))]))
                refine own_Fin.go (fun t k => XS.iload X60.here hx rfl (hb hby at_302) rfl k) ?_
                show own_Fin _ _ _ _ _ _ _ (T60.setTop (mkF m 304 #[.val (.int va), .val (.int vb), .val (.int vc), .val (.int vd), .val (.int ve), .val (.int vf), .val (.ref b1), .val (.int oA), .val (.int nA), .val (.int oB), .val (.int nB), .val (.int oC), .val (.int nC), .val (.int (1 : Int32)), .val (.int (0 : Int32)), .val (.int (1 : Int32)), .val (.ref b51), .val (.int (0 : Int32))] [(.int (0 : Int32)), (.int (own_all (own_cp (own_cp (own_cp (List.replicate 1024 (0 : Int32)) LS (0 : Int32) oA nA) LS ((0 : Int32) + nA) oB nB) LS (((0 : Int32) + nA) + nB) oC nC) ((((0 : Int32) + nA) + nB) + nC)))]))
                have hc304 : (own_all (own_cp (own_cp (own_cp (List.replicate 1024 (0 : Int32)) LS (0 : Int32) oA nA) LS ((0 : Int32) + nA) oB nB) LS (((0 : Int32) + nA) + nB) oC nC) ((((0 : Int32) + nA) + nB) + nC)) = (0 : Int32) := own_all0 hT55 (own_inr (own_evil hJ138.2.2 hc287))
                refine own_Fin.go (fun t k => XS.icmpNo X60.here hx rfl (hb hby at_304) rfl (Jvm.Free.XT.ii_ne_f hc304) k) ?_
                show own_Fin _ _ _ _ _ _ _ (T60.setTop (mkF m 307 #[.val (.int va), .val (.int vb), .val (.int vc), .val (.int vd), .val (.int ve), .val (.int vf), .val (.ref b1), .val (.int oA), .val (.int nA), .val (.int oB), .val (.int nB), .val (.int oC), .val (.int nC), .val (.int (1 : Int32)), .val (.int (0 : Int32)), .val (.int (1 : Int32)), .val (.ref b51), .val (.int (0 : Int32))] []))
                refine own_Fin.go (fun t k => XS.iconst X60.here hx rfl (hb hby at_307) k) ?_
                show own_Fin _ _ _ _ _ _ _ (T60.setTop (mkF m 308 #[.val (.int va), .val (.int vb), .val (.int vc), .val (.int vd), .val (.int ve), .val (.int vf), .val (.ref b1), .val (.int oA), .val (.int nA), .val (.int oB), .val (.int nB), .val (.int oC), .val (.int nC), .val (.int (1 : Int32)), .val (.int (0 : Int32)), .val (.int (1 : Int32)), .val (.ref b51), .val (.int (0 : Int32))] [(.int (1 : Int32))]))
                refine own_Fin.go (fun t k => XS.goto X60.here hx rfl (pc0 := 308) (pc' := 312) rfl (hb hby at_308) (by decide) (by decide) k) ?_
                show own_Fin _ _ _ _ _ _ _ (T60.setTop (mkF m 312 #[.val (.int va), .val (.int vb), .val (.int vc), .val (.int vd), .val (.int ve), .val (.int vf), .val (.ref b1), .val (.int oA), .val (.int nA), .val (.int oB), .val (.int nB), .val (.int oC), .val (.int nC), .val (.int (1 : Int32)), .val (.int (0 : Int32)), .val (.int (1 : Int32)), .val (.ref b51), .val (.int (0 : Int32))] [(.int (1 : Int32))]))
                refine own_retN X60 hx (t := .boolean) (w := (1 : Int32)) Bd.returns (by simp) (hb hby at_312) Bd.notSynchronized rfl (by decide) (by decide) ?_
                rw [e60]
                exact ⟨rfl, N60⟩
            · refine own_Fin.go (fun t k => XS.ifYes X57.here hx rfl (pc0 := 270) (pc' := 294) rfl (hb hby at_270) rfl (Jvm.Free.XT.i0_ne_t hc270) (by decide) (by decide) k) ?_
              show own_Fin _ _ _ _ _ _ _ (T57.setTop (mkF m 294 #[.val (.int va), .val (.int vb), .val (.int vc), .val (.int vd), .val (.int ve), .val (.int vf), .val (.ref b1), .val (.int oA), .val (.int nA), .val (.int oB), .val (.int nB), .val (.int oC), .val (.int nC), .val (.int (1 : Int32)), .val (.int (0 : Int32)), .val (.int (1 : Int32)), .val (.ref b51), .unset] []))
              refine own_Fin.go (fun t k => XS.iconst X57.here hx rfl (hb hby at_294) k) ?_
              show own_Fin _ _ _ _ _ _ _ (T57.setTop (mkF m 295 #[.val (.int va), .val (.int vb), .val (.int vc), .val (.int vd), .val (.int ve), .val (.int vf), .val (.ref b1), .val (.int oA), .val (.int nA), .val (.int oB), .val (.int nB), .val (.int oC), .val (.int nC), .val (.int (1 : Int32)), .val (.int (0 : Int32)), .val (.int (1 : Int32)), .val (.ref b51), .unset] [(.int (0 : Int32))]))
              refine own_Fin.go (fun t k => XS.istore X57.here hx rfl (hb hby at_295) rfl (l' := #[.val (.int va), .val (.int vb), .val (.int vc), .val (.int vd), .val (.int ve), .val (.int vf), .val (.ref b1), .val (.int oA), .val (.int nA), .val (.int oB), .val (.int nB), .val (.int oC), .val (.int nC), .val (.int (1 : Int32)), .val (.int (0 : Int32)), .val (.int (1 : Int32)), .val (.ref b51), .val (.int (0 : Int32))]) rfl k) ?_
              show own_Fin _ _ _ _ _ _ _ (T57.setTop (mkF m 297 #[.val (.int va), .val (.int vb), .val (.int vc), .val (.int vd), .val (.int ve), .val (.int vf), .val (.ref b1), .val (.int oA), .val (.int nA), .val (.int oB), .val (.int nB), .val (.int oC), .val (.int nC), .val (.int (1 : Int32)), .val (.int (0 : Int32)), .val (.int (1 : Int32)), .val (.ref b51), .val (.int (0 : Int32))] []))
              refine own_Fin.go (fun t k => XS.aload X57.here hx rfl (hb hby at_297) rfl rfl k) ?_
              show own_Fin _ _ _ _ _ _ _ (T57.setTop (mkF m 299 #[.val (.int va), .val (.int vb), .val (.int vc), .val (.int vd), .val (.int ve), .val (.int vf), .val (.ref b1), .val (.int oA), .val (.int nA), .val (.int oB), .val (.int nB), .val (.int oC), .val (.int nC), .val (.int (1 : Int32)), .val (.int (0 : Int32)), .val (.int (1 : Int32)), .val (.ref b51), .val (.int (0 : Int32))] [(.ref b51)]))
              obtain ⟨cq61, kq61, q61a, q61b, q61c⟩ := isOf hZ e57 c55_1
              obtain ⟨_, _, ⟨T61, L61, k61, n61⟩, -, X61, ⟨Lc61, hQ61, l61, y61, z61⟩, st61⟩ := X57.virtualBack hx (y := (⟨"com/example/wardkeeper/wardkeeper/hl7/Lines", "allAscii", "()Z"⟩ : MethodName)) (z := (⟨"com/example/wardkeeper/wardkeeper/hl7/Lines", "allAscii", "()Z"⟩ : MethodName)) hown (mvT hZ (hw _ (List.mem_of_getElem? (i := 42) rfl))) (mvT hZ (hw _ (List.mem_of_getElem? (i := 43) rfl))) (notFace_of_selects (args := #[]) (mvT hZ (hw _ (List.mem_of_getElem? (i := 45) rfl)))) (mvT hZ (hw _ (List.mem_of_getElem? (i := 45) rfl))) (mvT hZ (hw _ (List.mem_of_getElem? (i := 44) rfl))) (by decide) (backOf (W := 0) (own_rm_aa3 l Z a0 hw [] b51 ob52 kb52 (own_cp (own_cp (own_cp (List.replicate 1024 (0 : Int32)) LS (0 : Int32) oA nA) LS ((0 : Int32) + nA) oB nB) LS (((0 : Int32) + nA) + nB) oC nC) oe52 ke52 ((0 : Int32) + nA) (((0 : Int32) + nA) + nB) ((((0 : Int32) + nA) + nB) + nC) T55.heap n0 Z55 c55_1 c55_2 c55_3 c55_4 c55_5 c55_6 (own_up hO55.1 (by decide)) hL55) hZ (hw _ (List.mem_of_getElem? (i := 46) rfl)) (hw _ (List.mem_of_getElem? (i := 3) rfl)) (by decide) (by decide)) q61a q61c (g := (mkF m 299 #[.val (.int va), .val (.int vb), .val (.int vc), .val (.int vd), .val (.int ve), .val (.int vf), .val (.ref b1), .val (.int oA), .val (.int nA), .val (.int oB), .val (.int nB), .val (.int oC), .val (.int nC), .val (.int (1 : Int32)), .val (.int (0 : Int32)), .val (.int (1 : Int32)), .val (.ref b51), .val (.int (0 : Int32))] [(.ref b51)])) rfl (by rw [hml]; rfl) (Steps.refl _) (argsL := []) (rest := []) (lenOf own_pd6 rfl) rfl (by show 2 * 0 + _ ≤ _; exact Nat.le_of_eq rfl) (hb hby at_299) (fun _ _ => ⟨rfl, e57, (by decide : 4 + 0 ≤ _), (by decide : 1051 + 0 ≤ _)⟩)
              dsimp only [Pt.U, Pt.locs, Pt.cells, Pt.slots] at X61 l61 y61 z61 st61 hQ61
              subst l61 y61 z61
              obtain ⟨rfl, N61q, e61⟩ := hQ61
              refine own_Fin.go (fun t k => st61.trans k) ?_
              have N61 := Fr.app N57 N61q
              show own_Fin _ _ _ _ _ _ _ (T61.setTop (mkF m 302 #[.val (.int va), .val (.int vb), .val (.int vc), .val (.int vd), .val (.int ve), .val (.int vf), .val (.ref b1), .val (.int oA), .val (.int nA), .val (.int oB), .val (.int nB), .val (.int oC), .val (.int nC), .val (.int (1 : Int32)), .val (.int (0 : Int32)), .val (.int (1 : Int32)), .val (.ref b51), .val (.int (0 : Int32))] [(.int (own_all (own_cp (own_cp (own_cp (List.replicate 1024 (0 : Int32)) LS (0 : Int32) oA nA) LS ((0 : Int32) + nA) oB nB) LS (((0 : Int32) + nA) + nB) oC nC) ((((0 : Int32) + nA) + nB) + nC)))]))
              refine own_Fin.go (fun t k => XS.iload X61.here hx rfl (hb hby at_302) rfl k) ?_
              show own_Fin _ _ _ _ _ _ _ (T61.setTop (mkF m 304 #[.val (.int va), .val (.int vb), .val (.int vc), .val (.int vd), .val (.int ve), .val (.int vf), .val (.ref b1), .val (.int oA), .val (.int nA), .val (.int oB), .val (.int nB), .val (.int oC), .val (.int nC), .val (.int (1 : Int32)), .val (.int (0 : Int32)), .val (.int (1 : Int32)), .val (.ref b51), .val (.int (0 : Int32))] [(.int (0 : Int32)), (.int (own_all (own_cp (own_cp (own_cp (List.replicate 1024 (0 : Int32)) LS (0 : Int32) oA nA) LS ((0 : Int32) + nA) oB nB) LS (((0 : Int32) + nA) + nB) oC nC) ((((0 : Int32) + nA) + nB) + nC)))]))
              have hc304 : (own_all (own_cp (own_cp (own_cp (List.replicate 1024 (0 : Int32)) LS (0 : Int32) oA nA) LS ((0 : Int32) + nA) oB nB) LS (((0 : Int32) + nA) + nB) oC nC) ((((0 : Int32) + nA) + nB) + nC)) = (0 : Int32) := own_all0 hT55 (own_inl (own_inr (own_evil hJ138.2.1 hc270)))
              refine own_Fin.go (fun t k => XS.icmpNo X61.here hx rfl (hb hby at_304) rfl (Jvm.Free.XT.ii_ne_f hc304) k) ?_
              show own_Fin _ _ _ _ _ _ _ (T61.setTop (mkF m 307 #[.val (.int va), .val (.int vb), .val (.int vc), .val (.int vd), .val (.int ve), .val (.int vf), .val (.ref b1), .val (.int oA), .val (.int nA), .val (.int oB), .val (.int nB), .val (.int oC), .val (.int nC), .val (.int (1 : Int32)), .val (.int (0 : Int32)), .val (.int (1 : Int32)), .val (.ref b51), .val (.int (0 : Int32))] []))
              refine own_Fin.go (fun t k => XS.iconst X61.here hx rfl (hb hby at_307) k) ?_
              show own_Fin _ _ _ _ _ _ _ (T61.setTop (mkF m 308 #[.val (.int va), .val (.int vb), .val (.int vc), .val (.int vd), .val (.int ve), .val (.int vf), .val (.ref b1), .val (.int oA), .val (.int nA), .val (.int oB), .val (.int nB), .val (.int oC), .val (.int nC), .val (.int (1 : Int32)), .val (.int (0 : Int32)), .val (.int (1 : Int32)), .val (.ref b51), .val (.int (0 : Int32))] [(.int (1 : Int32))]))
              refine own_Fin.go (fun t k => XS.goto X61.here hx rfl (pc0 := 308) (pc' := 312) rfl (hb hby at_308) (by decide) (by decide) k) ?_
              show own_Fin _ _ _ _ _ _ _ (T61.setTop (mkF m 312 #[.val (.int va), .val (.int vb), .val (.int vc), .val (.int vd), .val (.int ve), .val (.int vf), .val (.ref b1), .val (.int oA), .val (.int nA), .val (.int oB), .val (.int nB), .val (.int oC), .val (.int nC), .val (.int (1 : Int32)), .val (.int (0 : Int32)), .val (.int (1 : Int32)), .val (.ref b51), .val (.int (0 : Int32))] [(.int (1 : Int32))]))
              refine own_retN X61 hx (t := .boolean) (w := (1 : Int32)) Bd.returns (by simp) (hb hby at_312) Bd.notSynchronized rfl (by decide) (by decide) ?_
              rw [e61]
              exact ⟨rfl, N61⟩
          · refine own_Fin.go (fun t k => XS.ifYes X56.here hx rfl (pc0 := 258) (pc' := 294) rfl (hb hby at_258) rfl (Jvm.Free.XT.i0_ne_t hc258) (by decide) (by decide) k) ?_
            show own_Fin _ _ _ _ _ _ _ (T56.setTop (mkF m 294 #[.val (.int va), .val (.int vb), .val (.int vc), .val (.int vd), .val (.int ve), .val (.int vf), .val (.ref b1), .val (.int oA), .val (.int nA), .val (.int oB), .val (.int nB), .val (.int oC), .val (.int nC), .val (.int (1 : Int32)), .val (.int (0 : Int32)), .val (.int (1 : Int32)), .val (.ref b51), .unset] []))
            refine own_Fin.go (fun t k => XS.iconst X56.here hx rfl (hb hby at_294) k) ?_
            show own_Fin _ _ _ _ _ _ _ (T56.setTop (mkF m 295 #[.val (.int va), .val (.int vb), .val (.int vc), .val (.int vd), .val (.int ve), .val (.int vf), .val (.ref b1), .val (.int oA), .val (.int nA), .val (.int oB), .val (.int nB), .val (.int oC), .val (.int nC), .val (.int (1 : Int32)), .val (.int (0 : Int32)), .val (.int (1 : Int32)), .val (.ref b51), .unset] [(.int (0 : Int32))]))
            refine own_Fin.go (fun t k => XS.istore X56.here hx rfl (hb hby at_295) rfl (l' := #[.val (.int va), .val (.int vb), .val (.int vc), .val (.int vd), .val (.int ve), .val (.int vf), .val (.ref b1), .val (.int oA), .val (.int nA), .val (.int oB), .val (.int nB), .val (.int oC), .val (.int nC), .val (.int (1 : Int32)), .val (.int (0 : Int32)), .val (.int (1 : Int32)), .val (.ref b51), .val (.int (0 : Int32))]) rfl k) ?_
            show own_Fin _ _ _ _ _ _ _ (T56.setTop (mkF m 297 #[.val (.int va), .val (.int vb), .val (.int vc), .val (.int vd), .val (.int ve), .val (.int vf), .val (.ref b1), .val (.int oA), .val (.int nA), .val (.int oB), .val (.int nB), .val (.int oC), .val (.int nC), .val (.int (1 : Int32)), .val (.int (0 : Int32)), .val (.int (1 : Int32)), .val (.ref b51), .val (.int (0 : Int32))] []))
            refine own_Fin.go (fun t k => XS.aload X56.here hx rfl (hb hby at_297) rfl rfl k) ?_
            show own_Fin _ _ _ _ _ _ _ (T56.setTop (mkF m 299 #[.val (.int va), .val (.int vb), .val (.int vc), .val (.int vd), .val (.int ve), .val (.int vf), .val (.ref b1), .val (.int oA), .val (.int nA), .val (.int oB), .val (.int nB), .val (.int oC), .val (.int nC), .val (.int (1 : Int32)), .val (.int (0 : Int32)), .val (.int (1 : Int32)), .val (.ref b51), .val (.int (0 : Int32))] [(.ref b51)]))
            obtain ⟨cq62, kq62, q62a, q62b, q62c⟩ := isOf hZ e56 c55_1
            obtain ⟨_, _, ⟨T62, L62, k62, n62⟩, -, X62, ⟨Lc62, hQ62, l62, y62, z62⟩, st62⟩ := X56.virtualBack hx (y := (⟨"com/example/wardkeeper/wardkeeper/hl7/Lines", "allAscii", "()Z"⟩ : MethodName)) (z := (⟨"com/example/wardkeeper/wardkeeper/hl7/Lines", "allAscii", "()Z"⟩ : MethodName)) hown (mvT hZ (hw _ (List.mem_of_getElem? (i := 42) rfl))) (mvT hZ (hw _ (List.mem_of_getElem? (i := 43) rfl))) (notFace_of_selects (args := #[]) (mvT hZ (hw _ (List.mem_of_getElem? (i := 45) rfl)))) (mvT hZ (hw _ (List.mem_of_getElem? (i := 45) rfl))) (mvT hZ (hw _ (List.mem_of_getElem? (i := 44) rfl))) (by decide) (backOf (W := 0) (own_rm_aa3 l Z a0 hw [] b51 ob52 kb52 (own_cp (own_cp (own_cp (List.replicate 1024 (0 : Int32)) LS (0 : Int32) oA nA) LS ((0 : Int32) + nA) oB nB) LS (((0 : Int32) + nA) + nB) oC nC) oe52 ke52 ((0 : Int32) + nA) (((0 : Int32) + nA) + nB) ((((0 : Int32) + nA) + nB) + nC) T55.heap n0 Z55 c55_1 c55_2 c55_3 c55_4 c55_5 c55_6 (own_up hO55.1 (by decide)) hL55) hZ (hw _ (List.mem_of_getElem? (i := 46) rfl)) (hw _ (List.mem_of_getElem? (i := 3) rfl)) (by decide) (by decide)) q62a q62c (g := (mkF m 299 #[.val (.int va), .val (.int vb), .val (.int vc), .val (.int vd), .val (.int ve), .val (.int vf), .val (.ref b1), .val (.int oA), .val (.int nA), .val (.int oB), .val (.int nB), .val (.int oC), .val (.int nC), .val (.int (1 : Int32)), .val (.int (0 : Int32)), .val (.int (1 : Int32)), .val (.ref b51), .val (.int (0 : Int32))] [(.ref b51)])) rfl (by rw [hml]; rfl) (Steps.refl _) (argsL := []) (rest := []) (lenOf own_pd6 rfl) rfl (by show 2 * 0 + _ ≤ _; exact Nat.le_of_eq rfl) (hb hby at_299) (fun _ _ => ⟨rfl, e56, (by decide : 4 + 0 ≤ _), (by decide : 1051 + 0 ≤ _)⟩)
            dsimp only [Pt.U, Pt.locs, Pt.cells, Pt.slots] at X62 l62 y62 z62 st62 hQ62
            subst l62 y62 z62
            obtain ⟨rfl, N62q, e62⟩ := hQ62
            refine own_Fin.go (fun t k => st62.trans k) ?_
            have N62 := Fr.app N56 N62q
            show own_Fin _ _ _ _ _ _ _ (T62.setTop (mkF m 302 #[.val (.int va), .val (.int vb), .val (.int vc), .val (.int vd), .val (.int ve), .val (.int vf), .val (.ref b1), .val (.int oA), .val (.int nA), .val (.int oB), .val (.int nB), .val (.int oC), .val (.int nC), .val (.int (1 : Int32)), .val (.int (0 : Int32)), .val (.int (1 : Int32)), .val (.ref b51), .val (.int (0 : Int32))] [(.int (own_all (own_cp (own_cp (own_cp (List.replicate 1024 (0 : Int32)) LS (0 : Int32) oA nA) LS ((0 : Int32) + nA) oB nB) LS (((0 : Int32) + nA) + nB) oC nC) ((((0 : Int32) + nA) + nB) + nC)))]))
            refine own_Fin.go (fun t k => XS.iload X62.here hx rfl (hb hby at_302) rfl k) ?_
            show own_Fin _ _ _ _ _ _ _ (T62.setTop (mkF m 304 #[.val (.int va), .val (.int vb), .val (.int vc), .val (.int vd), .val (.int ve), .val (.int vf), .val (.ref b1), .val (.int oA), .val (.int nA), .val (.int oB), .val (.int nB), .val (.int oC), .val (.int nC), .val (.int (1 : Int32)), .val (.int (0 : Int32)), .val (.int (1 : Int32)), .val (.ref b51), .val (.int (0 : Int32))] [(.int (0 : Int32)), (.int (own_all (own_cp (own_cp (own_cp (List.replicate 1024 (0 : Int32)) LS (0 : Int32) oA nA) LS ((0 : Int32) + nA) oB nB) LS (((0 : Int32) + nA) + nB) oC nC) ((((0 : Int32) + nA) + nB) + nC)))]))
            have hc304 : (own_all (own_cp (own_cp (own_cp (List.replicate 1024 (0 : Int32)) LS (0 : Int32) oA nA) LS ((0 : Int32) + nA) oB nB) LS (((0 : Int32) + nA) + nB) oC nC) ((((0 : Int32) + nA) + nB) + nC)) = (0 : Int32) := own_all0 hT55 (own_inl (own_inl (own_inr (own_evil hJ138.1 hc258))))
            refine own_Fin.go (fun t k => XS.icmpNo X62.here hx rfl (hb hby at_304) rfl (Jvm.Free.XT.ii_ne_f hc304) k) ?_
            show own_Fin _ _ _ _ _ _ _ (T62.setTop (mkF m 307 #[.val (.int va), .val (.int vb), .val (.int vc), .val (.int vd), .val (.int ve), .val (.int vf), .val (.ref b1), .val (.int oA), .val (.int nA), .val (.int oB), .val (.int nB), .val (.int oC), .val (.int nC), .val (.int (1 : Int32)), .val (.int (0 : Int32)), .val (.int (1 : Int32)), .val (.ref b51), .val (.int (0 : Int32))] []))
            refine own_Fin.go (fun t k => XS.iconst X62.here hx rfl (hb hby at_307) k) ?_
            show own_Fin _ _ _ _ _ _ _ (T62.setTop (mkF m 308 #[.val (.int va), .val (.int vb), .val (.int vc), .val (.int vd), .val (.int ve), .val (.int vf), .val (.ref b1), .val (.int oA), .val (.int nA), .val (.int oB), .val (.int nB), .val (.int oC), .val (.int nC), .val (.int (1 : Int32)), .val (.int (0 : Int32)), .val (.int (1 : Int32)), .val (.ref b51), .val (.int (0 : Int32))] [(.int (1 : Int32))]))
            refine own_Fin.go (fun t k => XS.goto X62.here hx rfl (pc0 := 308) (pc' := 312) rfl (hb hby at_308) (by decide) (by decide) k) ?_
            show own_Fin _ _ _ _ _ _ _ (T62.setTop (mkF m 312 #[.val (.int va), .val (.int vb), .val (.int vc), .val (.int vd), .val (.int ve), .val (.int vf), .val (.ref b1), .val (.int oA), .val (.int nA), .val (.int oB), .val (.int nB), .val (.int oC), .val (.int nC), .val (.int (1 : Int32)), .val (.int (0 : Int32)), .val (.int (1 : Int32)), .val (.ref b51), .val (.int (0 : Int32))] [(.int (1 : Int32))]))
            refine own_retN X62 hx (t := .boolean) (w := (1 : Int32)) Bd.returns (by simp) (hb hby at_312) Bd.notSynchronized rfl (by decide) (by decide) ?_
            rw [e62]
            exact ⟨rfl, N62⟩
      · refine own_Fin.go (fun t k => XS.ifNo X9.here hx rfl (hb hby at_154) rfl (Jvm.Free.XT.i0_eq_f hc154) k) ?_
        show own_Fin _ _ _ _ _ _ _ (T9.setTop (mkF m 157 #[.val (.int va), .val (.int vb), .val (.int vc), .val (.int vd), .val (.int ve), .val (.int vf), .val (.ref b1), .val (.int oA), .val (.int nA), .val (.int oB), .val (.int nB), .val (.int oC), .val (.int nC), .val (.int (1 : Int32)), .unset, .unset, .unset, .unset] []))
        refine own_Fin.go (fun t k => XS.iconst X9.here hx rfl (hb hby at_157) k) ?_
        show own_Fin _ _ _ _ _ _ _ (T9.setTop (mkF m 158 #[.val (.int va), .val (.int vb), .val (.int vc), .val (.int vd), .val (.int ve), .val (.int vf), .val (.ref b1), .val (.int oA), .val (.int nA), .val (.int oB), .val (.int nB), .val (.int oC), .val (.int nC), .val (.int (1 : Int32)), .unset, .unset, .unset, .unset] [(.int (1 : Int32))]))
        refine own_Fin.go (fun t k => XS.goto X9.here hx rfl (pc0 := 158) (pc' := 162) rfl (hb hby at_158) (by decide) (by decide) k) ?_
        show own_Fin _ _ _ _ _ _ _ (T9.setTop (mkF m 162 #[.val (.int va), .val (.int vb), .val (.int vc), .val (.int vd), .val (.int ve), .val (.int vf), .val (.ref b1), .val (.int oA), .val (.int nA), .val (.int oB), .val (.int nB), .val (.int oC), .val (.int nC), .val (.int (1 : Int32)), .unset, .unset, .unset, .unset] [(.int (1 : Int32))]))
        refine own_Fin.go (fun t k => XS.istore X9.here hx rfl (hb hby at_162) rfl (l' := #[.val (.int va), .val (.int vb), .val (.int vc), .val (.int vd), .val (.int ve), .val (.int vf), .val (.ref b1), .val (.int oA), .val (.int nA), .val (.int oB), .val (.int nB), .val (.int oC), .val (.int nC), .val (.int (1 : Int32)), .val (.int (1 : Int32)), .unset, .unset, .unset]) rfl k) ?_
        show own_Fin _ _ _ _ _ _ _ (T9.setTop (mkF m 164 #[.val (.int va), .val (.int vb), .val (.int vc), .val (.int vd), .val (.int ve), .val (.int vf), .val (.ref b1), .val (.int oA), .val (.int nA), .val (.int oB), .val (.int nB), .val (.int oC), .val (.int nC), .val (.int (1 : Int32)), .val (.int (1 : Int32)), .unset, .unset, .unset] []))
        refine own_Fin.go (fun t k => XS.iloadN X9.here hx rfl (hb hby at_164) rfl k) ?_
        show own_Fin _ _ _ _ _ _ _ (T9.setTop (mkF m 165 #[.val (.int va), .val (.int vb), .val (.int vc), .val (.int vd), .val (.int ve), .val (.int vf), .val (.ref b1), .val (.int oA), .val (.int nA), .val (.int oB), .val (.int nB), .val (.int oC), .val (.int nC), .val (.int (1 : Int32)), .val (.int (1 : Int32)), .unset, .unset, .unset] [(.int vc)]))
        refine own_Fin.go (fun t k => XS.iconst X9.here hx rfl (hb hby at_165) k) ?_
        show own_Fin _ _ _ _ _ _ _ (T9.setTop (mkF m 166 #[.val (.int va), .val (.int vb), .val (.int vc), .val (.int vd), .val (.int ve), .val (.int vf), .val (.ref b1), .val (.int oA), .val (.int nA), .val (.int oB), .val (.int nB), .val (.int oC), .val (.int nC), .val (.int (1 : Int32)), .val (.int (1 : Int32)), .unset, .unset, .unset] [(.int (4 : Int32)), (.int vc)]))
        refine own_Fin.go (fun t k => XS.iand X9.here hx rfl (hb hby at_166) rfl k) ?_
        show own_Fin _ _ _ _ _ _ _ (T9.setTop (mkF m 167 #[.val (.int va), .val (.int vb), .val (.int vc), .val (.int vd), .val (.int ve), .val (.int vf), .val (.ref b1), .val (.int oA), .val (.int nA), .val (.int oB), .val (.int nB), .val (.int oC), .val (.int nC), .val (.int (1 : Int32)), .val (.int (1 : Int32)), .unset, .unset, .unset] [(.int (vc &&& (4 : Int32)))]))
        by_cases hc167 : (vc &&& (4 : Int32)) = (0 : Int32)
        · refine own_Fin.go (fun t k => XS.ifYes X9.here hx rfl (pc0 := 167) (pc' := 174) rfl (hb hby at_167) rfl (Jvm.Free.XT.i0_eq_t hc167) (by decide) (by decide) k) ?_
          show own_Fin _ _ _ _ _ _ _ (T9.setTop (mkF m 174 #[.val (.int va), .val (.int vb), .val (.int vc), .val (.int vd), .val (.int ve), .val (.int vf), .val (.ref b1), .val (.int oA), .val (.int nA), .val (.int oB), .val (.int nB), .val (.int oC), .val (.int nC), .val (.int (1 : Int32)), .val (.int (1 : Int32)), .unset, .unset, .unset] []))
          refine own_Fin.go (fun t k => XS.iconst X9.here hx rfl (hb hby at_174) k) ?_
          show own_Fin _ _ _ _ _ _ _ (T9.setTop (mkF m 175 #[.val (.int va), .val (.int vb), .val (.int vc), .val (.int vd), .val (.int ve), .val (.int vf), .val (.ref b1), .val (.int oA), .val (.int nA), .val (.int oB), .val (.int nB), .val (.int oC), .val (.int nC), .val (.int (1 : Int32)), .val (.int (1 : Int32)), .unset, .unset, .unset] [(.int (0 : Int32))]))
          refine own_Fin.go (fun t k => XS.istore X9.here hx rfl (hb hby at_175) rfl (l' := #[.val (.int va), .val (.int vb), .val (.int vc), .val (.int vd), .val (.int ve), .val (.int vf), .val (.ref b1), .val (.int oA), .val (.int nA), .val (.int oB), .val (.int nB), .val (.int oC), .val (.int nC), .val (.int (1 : Int32)), .val (.int (1 : Int32)), .val (.int (0 : Int32)), .unset, .unset]) rfl k) ?_
          show own_Fin _ _ _ _ _ _ _ (T9.setTop (mkF m 177 #[.val (.int va), .val (.int vb), .val (.int vc), .val (.int vd), .val (.int ve), .val (.int vf), .val (.ref b1), .val (.int oA), .val (.int nA), .val (.int oB), .val (.int nB), .val (.int oC), .val (.int nC), .val (.int (1 : Int32)), .val (.int (1 : Int32)), .val (.int (0 : Int32)), .unset, .unset] []))
          obtain ⟨T63, h63, X63, e63, E63, A63, D63, -, st63⟩ := newO X9 hx hZ hown (hw _ (List.mem_of_getElem? (i := 1) rfl)) (hw _ (List.mem_of_getElem? (i := 2) rfl)) (hw _ (List.mem_of_getElem? (i := 3) rfl)) e9 (g := (mkF m 177 #[.val (.int va), .val (.int vb), .val (.int vc), .val (.int vd), .val (.int ve), .val (.int vf), .val (.ref b1), .val (.int oA), .val (.int nA), .val (.int oB), .val (.int nB), .val (.int oC), .val (.int nC), .val (.int (1 : Int32)), .val (.int (1 : Int32)), .val (.int (0 : Int32)), .unset, .unset] [])) rfl (hb hby at_177) (by decide) (by decide)
          obtain ⟨b63, g63⟩ : ∃ z, z = h9.size := ⟨_, rfl⟩
          rw [← g63] at A63 D63 st63
          refine own_Fin.go st63 ?_
          have g_b63 : n0 ≤ b63 := Nat.le_trans Z9 (Nat.le_of_eq g63.symm)
          have ne_b1_b63 : b1 ≠ b63 := Nat.ne_of_lt (Nat.lt_of_lt_of_le VS.lt (Nat.le_of_eq g63.symm))
          have VS_63 := VS.ext E63
          have Z63 := Nat.le_trans Z9 E63.1
          have F_b63_bytes : Fld Z h63 b63 "com/example/wardkeeper/wardkeeper/hl7/Lines" "bytes" "[B" .null := D63 (Or.inl (hw _ (List.mem_of_getElem? (i := 11) rfl))) (ty := (.array .byte)) (by decide)
          have F_b63_ends : Fld Z h63 b63 "com/example/wardkeeper/wardkeeper/hl7/Lines" "ends" "[I" .null := D63 (Or.inl (hw _ (List.mem_of_getElem? (i := 14) rfl))) (ty := (.array .int)) (by decide)
          have F_b63_count : Fld Z h63 b63 "com/example/wardkeeper/wardkeeper/hl7/Lines" "count" "I" (.int (0 : Int32)) := D63 (Or.inl (hw _ (List.mem_of_getElem? (i := 21) rfl))) (ty := .int) (by decide)
          show own_Fin _ _ _ _ _ _ _ (T63.setTop (mkF m 180 #[.val (.int va), .val (.int vb), .val (.int vc), .val (.int vd), .val (.int ve), .val (.int vf), .val (.ref b1), .val (.int oA), .val (.int nA), .val (.int oB), .val (.int nB), .val (.int oC), .val (.int nC), .val (.int (1 : Int32)), .val (.int (1 : Int32)), .val (.int (0 : Int32)), .unset, .unset] [(.ref b63)]))
          refine own_Fin.go (fun t k => XS.dup X63.here hx rfl (hb hby at_180) rfl rfl k) ?_
          show own_Fin _ _ _ _ _ _ _ (T63.setTop (mkF m 181 #[.val (.int va), .val (.int vb), .val (.int vc), .val (.int vd), .val (.int ve), .val (.int vf), .val (.ref b1), .val (.int oA), .val (.int nA), .val (.int oB), .val (.int nB), .val (.int oC), .val (.int nC), .val (.int (1 : Int32)), .val (.int (1 : Int32)), .val (.int (0 : Int32)), .unset, .unset] [(.ref b63), (.ref b63)]))
          obtain ⟨_, _, ⟨T64, L64, k64, n64⟩, -, X64, ⟨Lc64, hQ64, l64, y64, z64⟩, st64⟩ := X63.specialBack hx (y := (⟨"com/example/wardkeeper/wardkeeper/hl7/Lines", "<init>", "()V"⟩ : MethodName)) rfl hown (mvT hZ (hw _ (List.mem_of_getElem? (i := 4) rfl))) (mvT hZ (hw _ (List.mem_of_getElem? (i := 5) rfl))) (mvT hZ (hw _ (List.mem_of_getElem? (i := 6) rfl))) (by decide) (backOf (W := 1) (own_rm_ini l Z a0 hw [] b63  h63 n0 Z63 A63 F_b63_bytes F_b63_ends F_b63_count g_b63) hZ (hw _ (List.mem_of_getElem? (i := 6) rfl)) (hw _ (List.mem_of_getElem? (i := 3) rfl)) (by decide) (by decide)) (g := (mkF m 181 #[.val (.int va), .val (.int vb), .val (.int vc), .val (.int vd), .val (.int ve), .val (.int vf), .val (.ref b1), .val (.int oA), .val (.int nA), .val (.int oB), .val (.int nB), .val (.int oC), .val (.int nC), .val (.int (1 : Int32)), .val (.int (1 : Int32)), .val (.int (0 : Int32)), .unset, .unset] [(.ref b63), (.ref b63)])) rfl (by rw [hml]; rfl) (Steps.refl _) (a := b63) (argsL := []) (rest := [(.ref b63)]) (lenOf own_pd3 rfl) rfl (by show 2 * 0 + _ ≤ _; exact Nat.le_of_eq rfl) (hb hby at_181) (fun _ _ => ⟨rfl, e63, (by decide : 2 + 2 ≤ _), (by decide : 11 + 1040 ≤ _)⟩)
          dsimp only [Pt.U, Pt.locs, Pt.cells, Pt.slots] at X64 l64 y64 z64 st64 hQ64
          subst l64 y64 z64
          obtain ⟨ob64, oe64, kb64, ke64, rfl, N64q, K64q, c64_1, c64_2, c64_3, c64_4, c64_5, c64_6, c64_7, c64_8, c64_9, c64_10, c64_11⟩ := hQ64
          refine own_Fin.go (fun t k => st64.trans k) ?_
          have N64 := Fr.app N9 N64q
          have VS_64 := VS_63.keep K64q (ninS ne_b1_b63 nin0)
          have Z64 := Nat.le_trans Z63 K64q.1
          have ne_b1_ob64 : b1 ≠ ob64 := Nat.ne_of_lt (Nat.lt_of_lt_of_le VS_63.lt c64_7)
          have ne_b63_ob64 : b63 ≠ ob64 := Nat.ne_of_lt (Nat.lt_of_lt_of_le F_b63_count.lt c64_7)
          have g_ob64 : n0 ≤ ob64 := Nat.le_trans Z63 c64_7
          have ne_b1_oe64 : b1 ≠ oe64 := Nat.ne_of_lt (Nat.lt_of_lt_of_le VS_63.lt c64_8)
          have ne_b63_oe64 : b63 ≠ oe64 := Nat.ne_of_lt (Nat.lt_of_lt_of_le F_b63_count.lt c64_8)
          have g_oe64 : n0 ≤ oe64 := Nat.le_trans Z63 c64_8
          show own_Fin _ _ _ _ _ _ _ (T64.setTop (mkF m 184 #[.val (.int va), .val (.int vb), .val (.int vc), .val (.int vd), .val (.int ve), .val (.int vf), .val (.ref b1), .val (.int oA), .val (.int nA), .val (.int oB), .val (.int nB), .val (.int oC), .val (.int nC), .val (.int (1 : Int32)), .val (.int (1 : Int32)), .val (.int (0 : Int32)), .unset, .unset] [(.ref b63)]))
          refine own_Fin.go (fun t k => XS.astore X64.here hx rfl (hb hby at_184) rfl rfl (l' := #[.val (.int va), .val (.int vb), .val (.int vc), .val (.int vd), .val (.int ve), .val (.int vf), .val (.ref b1), .val (.int oA), .val (.int nA), .val (.int oB), .val (.int nB), .val (.int oC), .val (.int nC), .val (.int (1 : Int32)), .val (.int (1 : Int32)), .val (.int (0 : Int32)), .val (.ref b63), .unset]) rfl k) ?_
          show own_Fin _ _ _ _ _ _ _ (T64.setTop (mkF m 186 #[.val (.int va), .val (.int vb), .val (.int vc), .val (.int vd), .val (.int ve), .val (.int vf), .val (.ref b1), .val (.int oA), .val (.int nA), .val (.int oB), .val (.int nB), .val (.int oC), .val (.int nC), .val (.int (1 : Int32)), .val (.int (1 : Int32)), .val (.int (0 : Int32)), .val (.ref b63), .unset] []))
          refine own_Fin.go (fun t k => XS.iload X64.here hx rfl (hb hby at_186) rfl k) ?_
          show own_Fin _ _ _ _ _ _ _ (T64.setTop (mkF m 188 #[.val (.int va), .val (.int vb), .val (.int vc), .val (.int vd), .val (.int ve), .val (.int vf), .val (.ref b1), .val (.int oA), .val (.int nA), .val (.int oB), .val (.int nB), .val (.int oC), .val (.int nC), .val (.int (1 : Int32)), .val (.int (1 : Int32)), .val (.int (0 : Int32)), .val (.ref b63), .unset] [(.int (1 : Int32))]))
          refine own_Fin.go (fun t k => XS.ifNo X64.here hx rfl (hb hby at_188) rfl (by decide) k) ?_
          show own_Fin _ _ _ _ _ _ _ (T64.setTop (mkF m 191 #[.val (.int va), .val (.int vb), .val (.int vc), .val (.int vd), .val (.int ve), .val (.int vf), .val (.ref b1), .val (.int oA), .val (.int nA), .val (.int oB), .val (.int nB), .val (.int oC), .val (.int nC), .val (.int (1 : Int32)), .val (.int (1 : Int32)), .val (.int (0 : Int32)), .val (.ref b63), .unset] []))
          refine own_Fin.go (fun t k => XS.aload X64.here hx rfl (hb hby at_191) rfl rfl k) ?_
          show own_Fin _ _ _ _ _ _ _ (T64.setTop (mkF m 193 #[.val (.int va), .val (.int vb), .val (.int vc), .val (.int vd), .val (.int ve), .val (.int vf), .val (.ref b1), .val (.int oA), .val (.int nA), .val (.int oB), .val (.int nB), .val (.int oC), .val (.int nC), .val (.int (1 : Int32)), .val (.int (1 : Int32)), .val (.int (0 : Int32)), .val (.ref b63), .unset] [(.ref b63)]))
          refine own_Fin.go (fun t k => XS.aload X64.here hx rfl (hb hby at_193) rfl rfl k) ?_
          show own_Fin _ _ _ _ _ _ _ (T64.setTop (mkF m 195 #[.val (.int va), .val (.int vb), .val (.int vc), .val (.int vd), .val (.int ve), .val (.int vf), .val (.ref b1), .val (.int oA), .val (.int nA), .val (.int oB), .val (.int nB), .val (.int oC), .val (.int nC), .val (.int (1 : Int32)), .val (.int (1 : Int32)), .val (.int (0 : Int32)), .val (.ref b63), .unset] [(.ref b1), (.ref b63)]))
          refine own_Fin.go (fun t k => XS.iload X64.here hx rfl (hb hby at_195) rfl k) ?_
          show own_Fin _ _ _ _ _ _ _ (T64.setTop (mkF m 197 #[.val (.int va), .val (.int vb), .val (.int vc), .val (.int vd), .val (.int ve), .val (.int vf), .val (.ref b1), .val (.int oA), .val (.int nA), .val (.int oB), .val (.int nB), .val (.int oC), .val (.int nC), .val (.int (1 : Int32)), .val (.int (1 : Int32)), .val (.int (0 : Int32)), .val (.ref b63), .unset] [(.int oA), (.ref b1), (.ref b63)]))
          refine own_Fin.go (fun t k => XS.iload X64.here hx rfl (hb hby at_197) rfl k) ?_
          show own_Fin _ _ _ _ _ _ _ (T64.setTop (mkF m 199 #[.val (.int va), .val (.int vb), .val (.int vc), .val (.int vd), .val (.int ve), .val (.int vf), .val (.ref b1), .val (.int oA), .val (.int nA), .val (.int oB), .val (.int nB), .val (.int oC), .val (.int nC), .val (.int (1 : Int32)), .val (.int (1 : Int32)), .val (.int (0 : Int32)), .val (.ref b63), .unset] [(.int nA), (.int oA), (.ref b1), (.ref b63)]))
          obtain ⟨cq65, kq65, q65a, q65b, q65c⟩ := isOf hZ rfl c64_1
          obtain ⟨_, _, ⟨T65, L65, k65, n65⟩, -, X65, ⟨Lc65, hQ65, l65, y65, z65⟩, st65⟩ := X64.virtualBack hx (y := (⟨"com/example/wardkeeper/wardkeeper/hl7/Lines", "add", "([BII)V"⟩ : MethodName)) (z := (⟨"com/example/wardkeeper/wardkeeper/hl7/Lines", "add", "([BII)V"⟩ : MethodName)) hown (mvT hZ (hw _ (List.mem_of_getElem? (i := 22) rfl))) (mvT hZ (hw _ (List.mem_of_getElem? (i := 23) rfl))) (notFace_of_selects (args := #[]) (mvT hZ (hw _ (List.mem_of_getElem? (i := 25) rfl)))) (mvT hZ (hw _ (List.mem_of_getElem? (i := 25) rfl))) (mvT hZ (hw _ (List.mem_of_getElem? (i := 24) rfl))) (by decide) (backOf (W := 0) (own_rm_add0 l Z a0 hw [] b63 b1 oA nA ob64 kb64 k1 (List.replicate 1024 (0 : Int32)) LS oe64 ke64 (0 : Int32) (0 : Int32) (0 : Int32) T64.heap n0 Z64 c64_1 c64_2 c64_3 c64_4 c64_5 c64_6 VS_64 g_b63 g_ob64 g_oe64 c64_9 c64_10 c64_11 ne_b1_b63 ne_b1_ob64 ne_b1_oe64 hJ138.1 (⟨by decide, by decide⟩ : own_ok 100 0) (by rw [List.length_replicate])) hZ (hw _ (List.mem_of_getElem? (i := 26) rfl)) (hw _ (List.mem_of_getElem? (i := 3) rfl)) (by decide) (by decide)) q65a q65c (g := (mkF m 199 #[.val (.int va), .val (.int vb), .val (.int vc), .val (.int vd), .val (.int ve), .val (.int vf), .val (.ref b1), .val (.int oA), .val (.int nA), .val (.int oB), .val (.int nB), .val (.int oC), .val (.int nC), .val (.int (1 : Int32)), .val (.int (1 : Int32)), .val (.int (0 : Int32)), .val (.ref b63), .unset] [(.int nA), (.int oA), (.ref b1), (.ref b63)])) rfl (by rw [hml]; rfl) (Steps.refl _) (argsL := [(.ref b1), (.int oA), (.int nA)]) (rest := []) (lenOf own_pd4 rfl) rfl (by show 2 * 0 + _ ≤ _; exact Nat.le_of_eq rfl) (hb hby at_199) (fun _ _ => ⟨rfl, rfl, (by decide : 4 + 0 ≤ _), (by decide : 1051 + 0 ≤ _)⟩)
          dsimp only [Pt.U, Pt.locs, Pt.cells, Pt.slots] at X65 l65 y65 z65 st65 hQ65
          subst l65 y65 z65
          obtain ⟨rfl, N65q, K65q, c65_1, c65_2, c65_3, c65_4, c65_5, c65_6⟩ := hQ65
          refine own_Fin.go (fun t k => st65.trans k) ?_
          have N65 := Fr.app N64 N65q
          have VS_65 := VS_64.keep K65q (ninS ne_b1_b63 (ninS ne_b1_ob64 (ninS ne_b1_oe64 nin0)))
          have Z65 := Nat.le_trans Z64 K65q.1
          have hO65 := own_next (⟨by decide, by decide⟩ : own_ok 0 0) (by decide) hJ138.1
          have hT65 := own_cpTake (LB := (List.replicate 1024 (0 : Int32))) (LS := LS) (S := (0 : Int32)) (o := oA) (n := nA) (by rw [List.length_replicate]) (own_up (⟨by decide, by decide⟩ : own_ok 0 0) (by decide)) hJ138.1
          rw [← hO65.2] at hT65
          have hL65 := own_cpLen (LB := (List.replicate 1024 (0 : Int32))) (LS := LS) (S := (0 : Int32)) (o := oA) (n := nA) (by rw [List.length_replicate]) (own_up (⟨by decide, by decide⟩ : own_ok 0 0) (by decide)) hJ138.1
          show own_Fin _ _ _ _ _ _ _ (T65.setTop (mkF m 202 #[.val (.int va), .val (.int vb), .val (.int vc), .val (.int vd), .val (.int ve), .val (.int vf), .val (.ref b1), .val (.int oA), .val (.int nA), .val (.int oB), .val (.int nB), .val (.int oC), .val (.int nC), .val (.int (1 : Int32)), .val (.int (1 : Int32)), .val (.int (0 : Int32)), .val (.ref b63), .unset] []))
          refine own_Fin.go (fun t k => XS.iload X65.here hx rfl (hb hby at_202) rfl k) ?_
          show own_Fin _ _ _ _ _ _ _ (T65.setTop (mkF m 204 #[.val (.int va), .val (.int vb), .val (.int vc), .val (.int vd), .val (.int ve), .val (.int vf), .val (.ref b1), .val (.int oA), .val (.int nA), .val (.int oB), .val (.int nB), .val (.int oC), .val (.int nC), .val (.int (1 : Int32)), .val (.int (1 : Int32)), .val (.int (0 : Int32)), .val (.ref b63), .unset] [(.int (1 : Int32))]))
          refine own_Fin.go (fun t k => XS.ifNo X65.here hx rfl (hb hby at_204) rfl (by decide) k) ?_
          show own_Fin _ _ _ _ _ _ _ (T65.setTop (mkF m 207 #[.val (.int va), .val (.int vb), .val (.int vc), .val (.int vd), .val (.int ve), .val (.int vf), .val (.ref b1), .val (.int oA), .val (.int nA), .val (.int oB), .val (.int nB), .val (.int oC), .val (.int nC), .val (.int (1 : Int32)), .val (.int (1 : Int32)), .val (.int (0 : Int32)), .val (.ref b63), .unset] []))
          refine own_Fin.go (fun t k => XS.aload X65.here hx rfl (hb hby at_207) rfl rfl k) ?_
          show own_Fin _ _ _ _ _ _ _ (T65.setTop (mkF m 209 #[.val (.int va), .val (.int vb), .val (.int vc), .val (.int vd), .val (.int ve), .val (.int vf), .val (.ref b1), .val (.int oA), .val (.int nA), .val (.int oB), .val (.int nB), .val (.int oC), .val (.int nC), .val (.int (1 : Int32)), .val (.int (1 : Int32)), .val (.int (0 : Int32)), .val (.ref b63), .unset] [(.ref b63)]))
          obtain ⟨cq66, kq66, q66a, q66b, q66c⟩ := isOf hZ rfl c65_1
          obtain ⟨_, _, ⟨T66, L66, k66, n66⟩, -, X66, ⟨Lc66, hQ66, l66, y66, z66⟩, st66⟩ := X65.virtualBack hx (y := (⟨"com/example/wardkeeper/wardkeeper/hl7/Lines", "clear", "()V"⟩ : MethodName)) (z := (⟨"com/example/wardkeeper/wardkeeper/hl7/Lines", "clear", "()V"⟩ : MethodName)) hown (mvT hZ (hw _ (List.mem_of_getElem? (i := 15) rfl))) (mvT hZ (hw _ (List.mem_of_getElem? (i := 16) rfl))) (notFace_of_selects (args := #[]) (mvT hZ (hw _ (List.mem_of_getElem? (i := 18) rfl)))) (mvT hZ (hw _ (List.mem_of_getElem? (i := 18) rfl))) (mvT hZ (hw _ (List.mem_of_getElem? (i := 17) rfl))) (by decide) (backOf (W := 0) (own_rm_clr l Z a0 hw [] b63 ob64 oe64 (1 : Int32) T65.heap n0 Z65 c65_1 c65_2 c65_3 c65_4 g_b63) hZ (hw _ (List.mem_of_getElem? (i := 19) rfl)) (hw _ (List.mem_of_getElem? (i := 3) rfl)) (by decide) (by decide)) q66a q66c (g := (mkF m 209 #[.val (.int va), .val (.int vb), .val (.int vc), .val (.int vd), .val (.int ve), .val (.int vf), .val (.ref b1), .val (.int oA), .val (.int nA), .val (.int oB), .val (.int nB), .val (.int oC), .val (.int nC), .val (.int (1 : Int32)), .val (.int (1 : Int32)), .val (.int (0 : Int32)), .val (.ref b63), .unset] [(.ref b63)])) rfl (by rw [hml]; rfl) (Steps.refl _) (argsL := []) (rest := []) (lenOf own_pd3 rfl) rfl (by show 2 * 0 + _ ≤ _; exact Nat.le_of_eq rfl) (hb hby at_209) (fun _ _ => ⟨rfl, rfl, (by decide : 4 + 0 ≤ _), (by decide : 1051 + 0 ≤ _)⟩)
          dsimp only [Pt.U, Pt.locs, Pt.cells, Pt.slots] at X66 l66 y66 z66 st66 hQ66
          subst l66 y66 z66
          obtain ⟨rfl, N66q, K66q, c66_1, c66_2, c66_3, c66_4⟩ := hQ66
          refine own_Fin.go (fun t k => st66.trans k) ?_
          have N66 := Fr.app N65 N66q
          have VS_66 := VS_65.keep K66q (ninS ne_b1_b63 nin0)
          have V_ob64_66 := c65_5.keep K66q (ninS (Ne.symm c64_9) nin0)
          have V_oe64_66 := c65_6.keep K66q (ninS (Ne.symm c64_10) nin0)
          have Z66 := Nat.le_trans Z65 K66q.1
          show own_Fin _ _ _ _ _ _ _ (T66.setTop (mkF m 212 #[.val (.int va), .val (.int vb), .val (.int vc), .val (.int vd), .val (.int ve), .val (.int vf), .val (.ref b1), .val (.int oA), .val (.int nA), .val (.int oB), .val (.int nB), .val (.int oC), .val (.int nC), .val (.int (1 : Int32)), .val (.int (1 : Int32)), .val (.int (0 : Int32)), .val (.ref b63), .unset] []))
          refine own_Fin.go (fun t k => XS.aload X66.here hx rfl (hb hby at_212) rfl rfl k) ?_
          show own_Fin _ _ _ _ _ _ _ (T66.setTop (mkF m 214 #[.val (.int va), .val (.int vb), .val (.int vc), .val (.int vd), .val (.int ve), .val (.int vf), .val (.ref b1), .val (.int oA), .val (.int nA), .val (.int oB), .val (.int nB), .val (.int oC), .val (.int nC), .val (.int (1 : Int32)), .val (.int (1 : Int32)), .val (.int (0 : Int32)), .val (.ref b63), .unset] [(.ref b63)]))
          refine own_Fin.go (fun t k => XS.aload X66.here hx rfl (hb hby at_214) rfl rfl k) ?_
          show own_Fin _ _ _ _ _ _ _ (T66.setTop (mkF m 216 #[.val (.int va), .val (.int vb), .val (.int vc), .val (.int vd), .val (.int ve), .val (.int vf), .val (.ref b1), .val (.int oA), .val (.int nA), .val (.int oB), .val (.int nB), .val (.int oC), .val (.int nC), .val (.int (1 : Int32)), .val (.int (1 : Int32)), .val (.int (0 : Int32)), .val (.ref b63), .unset] [(.ref b1), (.ref b63)]))
          refine own_Fin.go (fun t k => XS.iload X66.here hx rfl (hb hby at_216) rfl k) ?_
          show own_Fin _ _ _ _ _ _ _ (T66.setTop (mkF m 218 #[.val (.int va), .val (.int vb), .val (.int vc), .val (.int vd), .val (.int ve), .val (.int vf), .val (.ref b1), .val (.int oA), .val (.int nA), .val (.int oB), .val (.int nB), .val (.int oC), .val (.int nC), .val (.int (1 : Int32)), .val (.int (1 : Int32)), .val (.int (0 : Int32)), .val (.ref b63), .unset] [(.int oB), (.ref b1), (.ref b63)]))
          refine own_Fin.go (fun t k => XS.iload X66.here hx rfl (hb hby at_218) rfl k) ?_
          show own_Fin _ _ _ _ _ _ _ (T66.setTop (mkF m 220 #[.val (.int va), .val (.int vb), .val (.int vc), .val (.int vd), .val (.int ve), .val (.int vf), .val (.ref b1), .val (.int oA), .val (.int nA), .val (.int oB), .val (.int nB), .val (.int oC), .val (.int nC), .val (.int (1 : Int32)), .val (.int (1 : Int32)), .val (.int (0 : Int32)), .val (.ref b63), .unset] [(.int nB), (.int oB), (.ref b1), (.ref b63)]))
          obtain ⟨cq67, kq67, q67a, q67b, q67c⟩ := isOf hZ rfl c66_1
          obtain ⟨_, _, ⟨T67, L67, k67, n67⟩, -, X67, ⟨Lc67, hQ67, l67, y67, z67⟩, st67⟩ := X66.virtualBack hx (y := (⟨"com/example/wardkeeper/wardkeeper/hl7/Lines", "add", "([BII)V"⟩ : MethodName)) (z := (⟨"com/example/wardkeeper/wardkeeper/hl7/Lines", "add", "([BII)V"⟩ : MethodName)) hown (mvT hZ (hw _ (List.mem_of_getElem? (i := 22) rfl))) (mvT hZ (hw _ (List.mem_of_getElem? (i := 23) rfl))) (notFace_of_selects (args := #[]) (mvT hZ (hw _ (List.mem_of_getElem? (i := 25) rfl)))) (mvT hZ (hw _ (List.mem_of_getElem? (i := 25) rfl))) (mvT hZ (hw _ (List.mem_of_getElem? (i := 24) rfl))) (by decide) (backOf (W := 0) (own_rm_add0 l Z a0 hw [] b63 b1 oB nB ob64 kb64 k1 (own_cp (List.replicate 1024 (0 : Int32)) LS (0 : Int32) oA nA) LS oe64 ke64 ((0 : Int32) + nA) (0 : Int32) (0 : Int32) T66.heap n0 Z66 c66_1 c66_2 c66_3 c66_4 V_ob64_66 V_oe64_66 VS_66 g_b63 g_ob64 g_oe64 c64_9 c64_10 c64_11 ne_b1_b63 ne_b1_ob64 ne_b1_oe64 hJ138.2.1 (⟨by decide, by decide⟩ : own_ok 100 0) hL65) hZ (hw _ (List.mem_of_getElem? (i := 26) rfl)) (hw _ (List.mem_of_getElem? (i := 3) rfl)) (by decide) (by decide)) q67a q67c (g := (mkF m 220 #[.val (.int va), .val (.int vb), .val (.int vc), .val (.int vd), .val (.int ve), .val (.int vf), .val (.ref b1), .val (.int oA), .val (.int nA), .val (.int oB), .val (.int nB), .val (.int oC), .val (.int nC), .val (.int (1 : Int32)), .val (.int (1 : Int32)), .val (.int (0 : Int32)), .val (.ref b63), .unset] [(.int nB), (.int oB), (.ref b1), (.ref b63)])) rfl (by rw [hml]; rfl) (Steps.refl _) (argsL := [(.ref b1), (.int oB), (.int nB)]) (rest := []) (lenOf own_pd4 rfl) rfl (by show 2 * 0 + _ ≤ _; exact Nat.le_of_eq rfl) (hb hby at_220) (fun _ _ => ⟨rfl, rfl, (by decide : 4 + 0 ≤ _), (by decide : 1051 + 0 ≤ _)⟩)
          dsimp only [Pt.U, Pt.locs, Pt.cells, Pt.slots] at X67 l67 y67 z67 st67 hQ67
          subst l67 y67 z67
          obtain ⟨rfl, N67q, K67q, c67_1, c67_2, c67_3, c67_4, c67_5, c67_6⟩ := hQ67
          refine own_Fin.go (fun t k => st67.trans k) ?_
          have N67 := Fr.app N66 N67q
          have VS_67 := VS_66.keep K67q (ninS ne_b1_b63 (ninS ne_b1_ob64 (ninS ne_b1_oe64 nin0)))
          have Z67 := Nat.le_trans Z66 K67q.1
          have hO67 := own_next (⟨by decide, by decide⟩ : own_ok 0 0) (by decide) hJ138.2.1
          have hT67 := own_cpTake (LB := (own_cp (List.replicate 1024 (0 : Int32)) LS (0 : Int32) oA nA)) (LS := LS) (S := (0 : Int32)) (o := oB) (n := nB) hL65 (own_up (⟨by decide, by decide⟩ : own_ok 0 0) (by decide)) hJ138.2.1
          rw [← hO67.2] at hT67
          have hL67 := own_cpLen (LB := (own_cp (List.replicate 1024 (0 : Int32)) LS (0 : Int32) oA nA)) (LS := LS) (S := (0 : Int32)) (o := oB) (n := nB) hL65 (own_up (⟨by decide, by decide⟩ : own_ok 0 0) (by decide)) hJ138.2.1
          show own_Fin _ _ _ _ _ _ _ (T67.setTop (mkF m 223 #[.val (.int va), .val (.int vb), .val (.int vc), .val (.int vd), .val (.int ve), .val (.int vf), .val (.ref b1), .val (.int oA), .val (.int nA), .val (.int oB), .val (.int nB), .val (.int oC), .val (.int nC), .val (.int (1 : Int32)), .val (.int (1 : Int32)), .val (.int (0 : Int32)), .val (.ref b63), .unset] []))
          refine own_Fin.go (fun t k => XS.iload X67.here hx rfl (hb hby at_223) rfl k) ?_
          show own_Fin _ _ _ _ _ _ _ (T67.setTop (mkF m 225 #[.val (.int va), .val (.int vb), .val (.int vc), .val (.int vd), .val (.int ve), .val (.int vf), .val (.ref b1), .val (.int oA), .val (.int nA), .val (.int oB), .val (.int nB), .val (.int oC), .val (.int nC), .val (.int (1 : Int32)), .val (.int (1 : Int32)), .val (.int (0 : Int32)), .val (.ref b63), .unset] [(.int (0 : Int32))]))
          refine own_Fin.go (fun t k => XS.ifYes X67.here hx rfl (pc0 := 225) (pc' := 239) rfl (hb hby at_225) rfl (by decide) (by decide) (by decide) k) ?_
          show own_Fin _ _ _ _ _ _ _ (T67.setTop (mkF m 239 #[.val (.int va), .val (.int vb), .val (.int vc), .val (.int vd), .val (.int ve), .val (.int vf), .val (.ref b1), .val (.int oA), .val (.int nA), .val (.int oB), .val (.int nB), .val (.int oC), .val (.int nC), .val (.int (1 : Int32)), .val (.int (1 : Int32)), .val (.int (0 : Int32)), .val (.ref b63), .unset] []))
          refine own_Fin.go (fun t k => XS.iload X67.here hx rfl (hb hby at_239) rfl k) ?_
          show own_Fin _ _ _ _ _ _ _ (T67.setTop (mkF m 241 #[.val (.int va), .val (.int vb), .val (.int vc), .val (.int vd), .val (.int ve), .val (.int vf), .val (.ref b1), .val (.int oA), .val (.int nA), .val (.int oB), .val (.int nB), .val (.int oC), .val (.int nC), .val (.int (1 : Int32)), .val (.int (1 : Int32)), .val (.int (0 : Int32)), .val (.ref b63), .unset] [(.int (1 : Int32))]))
          refine own_Fin.go (fun t k => XS.ifNo X67.here hx rfl (hb hby at_241) rfl (by decide) k) ?_
          show own_Fin _ _ _ _ _ _ _ (T67.setTop (mkF m 244 #[.val (.int va), .val (.int vb), .val (.int vc), .val (.int vd), .val (.int ve), .val (.int vf), .val (.ref b1), .val (.int oA), .val (.int nA), .val (.int oB), .val (.int nB), .val (.int oC), .val (.int nC), .val (.int (1 : Int32)), .val (.int (1 : Int32)), .val (.int (0 : Int32)), .val (.ref b63), .unset] []))
          refine own_Fin.go (fun t k => XS.iload X67.here hx rfl (hb hby at_244) rfl k) ?_
          show own_Fin _ _ _ _ _ _ _ (T67.setTop (mkF m 246 #[.val (.int va), .val (.int vb), .val (.int vc), .val (.int vd), .val (.int ve), .val (.int vf), .val (.ref b1), .val (.int oA), .val (.int nA), .val (.int oB), .val (.int nB), .val (.int oC), .val (.int nC), .val (.int (1 : Int32)), .val (.int (1 : Int32)), .val (.int (0 : Int32)), .val (.ref b63), .unset] [(.int (1 : Int32))]))
          refine own_Fin.go (fun t k => XS.ifYes X67.here hx rfl (pc0 := 246) (pc' := 261) rfl (hb hby at_246) rfl (by decide) (by decide) (by decide) k) ?_
          show own_Fin _ _ _ _ _ _ _ (T67.setTop (mkF m 261 #[.val (.int va), .val (.int vb), .val (.int vc), .val (.int vd), .val (.int ve), .val (.int vf), .val (.ref b1), .val (.int oA), .val (.int nA), .val (.int oB), .val (.int nB), .val (.int oC), .val (.int nC), .val (.int (1 : Int32)), .val (.int (1 : Int32)), .val (.int (0 : Int32)), .val (.ref b63), .unset] []))
          refine own_Fin.go (fun t k => XS.aload X67.here hx rfl (hb hby at_261) rfl rfl k) ?_
          show own_Fin _ _ _ _ _ _ _ (T67.setTop (mkF m 263 #[.val (.int va), .val (.int vb), .val (.int vc), .val (.int vd), .val (.int ve), .val (.int vf), .val (.ref b1), .val (.int oA), .val (.int nA), .val (.int oB), .val (.int nB), .val (.int oC), .val (.int nC), .val (.int (1 : Int32)), .val (.int (1 : Int32)), .val (.int (0 : Int32)), .val (.ref b63), .unset] [(.ref b1)]))
          refine own_Fin.go (fun t k => XS.iload X67.here hx rfl (hb hby at_263) rfl k) ?_
          show own_Fin _ _ _ _ _ _ _ (T67.setTop (mkF m 265 #[.val (.int va), .val (.int vb), .val (.int vc), .val (.int vd), .val (.int ve), .val (.int vf), .val (.ref b1), .val (.int oA), .val (.int nA), .val (.int oB), .val (.int nB), .val (.int oC), .val (.int nC), .val (.int (1 : Int32)), .val (.int (1 : Int32)), .val (.int (0 : Int32)), .val (.ref b63), .unset] [(.int oB), (.ref b1)]))
          refine own_Fin.go (fun t k => XS.iload X67.here hx rfl (hb hby at_265) rfl k) ?_
          show own_Fin _ _ _ _ _ _ _ (T67.setTop (mkF m 267 #[.val (.int va), .val (.int vb), .val (.int vc), .val (.int vd), .val (.int ve), .val (.int vf), .val (.ref b1), .val (.int oA), .val (.int nA), .val (.int oB), .val (.int nB), .val (.int oC), .val (.int nC), .val (.int (1 : Int32)), .val (.int (1 : Int32)), .val (.int (0 : Int32)), .val (.ref b63), .unset] [(.int nB), (.int oB), (.ref b1)]))
          obtain ⟨_, _, ⟨T68, L68, k68, n68⟩, -, X68, ⟨Lc68, hQ68, l68, y68, z68⟩, st68⟩ := Jvm.LawKit.callS X67 hx (y := (⟨"com/example/wardkeeper/wardkeeper/hl7/LinesAllAsciiPinLaw", "bad", "([BII)Z"⟩ : MethodName)) hown (mvT hZ (hw _ (List.mem_of_getElem? (i := 35) rfl))) (mvT hZ (hw _ (List.mem_of_getElem? (i := 36) rfl))) (mvT hZ (hw _ (List.mem_of_getElem? (i := 37) rfl))) (mvT hZ (hw _ (List.mem_of_getElem? (i := 38) rfl))) (by decide) (backOf (W := 0) (own_rm_bad l Z a0 hw [] b1 oB nB k1 LS T67.heap n0 Z67 VS_67) hZ (hw _ (List.mem_of_getElem? (i := 38) rfl)) (hw _ (List.mem_of_getElem? (i := 37) rfl)) (by decide) (by decide)) (g := (mkF m 267 #[.val (.int va), .val (.int vb), .val (.int vc), .val (.int vd), .val (.int ve), .val (.int vf), .val (.ref b1), .val (.int oA), .val (.int nA), .val (.int oB), .val (.int nB), .val (.int oC), .val (.int nC), .val (.int (1 : Int32)), .val (.int (1 : Int32)), .val (.int (0 : Int32)), .val (.ref b63), .unset] [(.int nB), (.int oB), (.ref b1)])) rfl (by rw [hml]; rfl) (argsL := [(.ref b1), (.int oB), (.int nB)]) (rest := []) (lenOf own_pd5 rfl) rfl (by show 2 * 0 + _ ≤ _; exact Nat.le_of_eq rfl) (hb hby at_267) (fun _ _ => ⟨rfl, rfl, (by decide : 4 + 0 ≤ _), (by decide : 1051 + 0 ≤ _)⟩)
          dsimp only [Pt.U, Pt.locs, Pt.cells, Pt.slots] at X68 l68 y68 z68 st68 hQ68
          subst l68 y68 z68
          obtain ⟨rfl, N68q, e68⟩ := hQ68
          refine own_Fin.go (fun t k => st68 t k) ?_
          have N68 := Fr.app N67 N68q
          show own_Fin _ _ _ _ _ _ _ (T68.setTop (mkF m 270 #[.val (.int va), .val (.int vb), .val (.int vc), .val (.int vd), .val (.int ve), .val (.int vf), .val (.ref b1), .val (.int oA), .val (.int nA), .val (.int oB), .val (.int nB), .val (.int oC), .val (.int nC), .val (.int (1 : Int32)), .val (.int (1 : Int32)), .val (.int (0 : Int32)), .val (.ref b63), .unset] [(.int (own_bad LS oB nB))]))
          by_cases hc270 : (own_bad LS oB nB) = (0 : Int32)
          · refine own_Fin.go (fun t k => XS.ifNo X68.here hx rfl (hb hby at_270) rfl (Jvm.Free.XT.i0_ne_f hc270) k) ?_
            show own_Fin _ _ _ _ _ _ _ (T68.setTop (mkF m 273 #[.val (.int va), .val (.int vb), .val (.int vc), .val (.int vd), .val (.int ve), .val (.int vf), .val (.ref b1), .val (.int oA), .val (.int nA), .val (.int oB), .val (.int nB), .val (.int oC), .val (.int nC), .val (.int (1 : Int32)), .val (.int (1 : Int32)), .val (.int (0 : Int32)), .val (.ref b63), .unset] []))
            refine own_Fin.go (fun t k => XS.iload X68.here hx rfl (hb hby at_273) rfl k) ?_
            show own_Fin _ _ _ _ _ _ _ (T68.setTop (mkF m 275 #[.val (.int va), .val (.int vb), .val (.int vc), .val (.int vd), .val (.int ve), .val (.int vf), .val (.ref b1), .val (.int oA), .val (.int nA), .val (.int oB), .val (.int nB), .val (.int oC), .val (.int nC), .val (.int (1 : Int32)), .val (.int (1 : Int32)), .val (.int (0 : Int32)), .val (.ref b63), .unset] [(.int (0 : Int32))]))
            refine own_Fin.go (fun t k => XS.ifYes X68.here hx rfl (pc0 := 275) (pc' := 290) rfl (hb hby at_275) rfl (by decide) (by decide) (by decide) k) ?_
            show own_Fin _ _ _ _ _ _ _ (T68.setTop (mkF m 290 #[.val (.int va), .val (.int vb), .val (.int vc), .val (.int vd), .val (.int ve), .val (.int vf), .val (.ref b1), .val (.int oA), .val (.int nA), .val (.int oB), .val (.int nB), .val (.int oC), .val (.int nC), .val (.int (1 : Int32)), .val (.int (1 : Int32)), .val (.int (0 : Int32)), .val (.ref b63), .unset] []))
            refine own_Fin.go (fun t k => XS.iconst X68.here hx rfl (hb hby at_290) k) ?_
            show own_Fin _ _ _ _ _ _ _ (T68.setTop (mkF m 291 #[.val (.int va), .val (.int vb), .val (.int vc), .val (.int vd), .val (.int ve), .val (.int vf), .val (.ref b1), .val (.int oA), .val (.int nA), .val (.int oB), .val (.int nB), .val (.int oC), .val (.int nC), .val (.int (1 : Int32)), .val (.int (1 : Int32)), .val (.int (0 : Int32)), .val (.ref b63), .unset] [(.int (1 : Int32))]))
            refine own_Fin.go (fun t k => XS.goto X68.here hx rfl (pc0 := 291) (pc' := 295) rfl (hb hby at_291) (by decide) (by decide) k) ?_
            show own_Fin _ _ _ _ _ _ _ (T68.setTop (mkF m 295 #[.val (.int va), .val (.int vb), .val (.int vc), .val (.int vd), .val (.int ve), .val (.int vf), .val (.ref b1), .val (.int oA), .val (.int nA), .val (.int oB), .val (.int nB), .val (.int oC), .val (.int nC), .val (.int (1 : Int32)), .val (.int (1 : Int32)), .val (.int (0 : Int32)), .val (.ref b63), .unset] [(.int (1 : Int32))]))
            refine own_Fin.go (fun t k => XS.istore X68.here hx rfl (hb hby at_295) rfl (l' := #[.val (.int va), .val (.int vb), .val (.int vc), .val (.int vd), .val (.int ve), .val (.int vf), .val (.ref b1), .val (.int oA), .val (.int nA), .val (.int oB), .val (.int nB), .val (.int oC), .val (.int nC), .val (.int (1 : Int32)), .val (.int (1 : Int32)), .val (.int (0 : Int32)), .val (.ref b63), .val (.int (1 : Int32))]) rfl k) ?_
            show own_Fin _ _ _ _ _ _ _ (T68.setTop (mkF m 297 #[.val (.int va), .val (.int vb), .val (.int vc), .val (.int vd), .val (.int ve), .val (.int vf), .val (.ref b1), .val (.int oA), .val (.int nA), .val (.int oB), .val (.int nB), .val (.int oC), .val (.int nC), .val (.int (1 : Int32)), .val (.int (1 : Int32)), .val (.int (0 : Int32)), .val (.ref b63), .val (.int (1 : Int32))] []))
            refine own_Fin.go (fun t k => XS.aload X68.here hx rfl (hb hby at_297) rfl rfl k) ?_
            show own_Fin _ _ _ _ _ _ _ (T68.setTop (mkF m 299 #[.val (.int va), .val (.int vb), .val (.int vc), .val (.int vd), .val (.int ve), .val (.int vf), .val (.ref b1), .val (.int oA), .val (.int nA), .val (.int oB), .val (.int nB), .val (.int oC), .val (.int nC), .val (.int (1 : Int32)), .val (.int (1 : Int32)), .val (.int (0 : Int32)), .val (.ref b63), .val (.int (1 : Int32))] [(.ref b63)]))
            obtain ⟨cq69, kq69, q69a, q69b, q69c⟩ := isOf hZ e68 c67_1
            obtain ⟨_, _, ⟨T69, L69, k69, n69⟩, -, X69, ⟨Lc69, hQ69, l69, y69, z69⟩, st69⟩ := X68.virtualBack hx (y := (⟨"com/example/wardkeeper/wardkeeper/hl7/Lines", "allAscii", "()Z"⟩ : MethodName)) (z := (⟨"com/example/wardkeeper/wardkeeper/hl7/Lines", "allAscii", "()Z"⟩ : MethodName)) hown (mvT hZ (hw _ (List.mem_of_getElem? (i := 42) rfl))) (mvT hZ (hw _ (List.mem_of_getElem? (i := 43) rfl))) (notFace_of_selects (args := #[]) (mvT hZ (hw _ (List.mem_of_getElem? (i := 45) rfl)))) (mvT hZ (hw _ (List.mem_of_getElem? (i := 45) rfl))) (mvT hZ (hw _ (List.mem_of_getElem? (i := 44) rfl))) (by decide) (backOf (W := 0) (own_rm_aa1 l Z a0 hw [] b63 ob64 kb64 (own_cp (own_cp (List.replicate 1024 (0 : Int32)) LS (0 : Int32) oA nA) LS (0 : Int32) oB nB) oe64 ke64 ((0 : Int32) + nB) (0 : Int32) (0 : Int32) T67.heap n0 Z67 c67_1 c67_2 c67_3 c67_4 c67_5 c67_6 (own_up hO67.1 (by decide)) hL67) hZ (hw _ (List.mem_of_getElem? (i := 46) rfl)) (hw _ (List.mem_of_getElem? (i := 3) rfl)) (by decide) (by decide)) q69a q69c (g := (mkF m 299 #[.val (.int va), .val (.int vb), .val (.int vc), .val (.int vd), .val (.int ve), .val (.int vf), .val (.ref b1), .val (.int oA), .val (.int nA), .val (.int oB), .val (.int nB), .val (.int oC), .val (.int nC), .val (.int (1 : Int32)), .val (.int (1 : Int32)), .val (.int (0 : Int32)), .val (.ref b63), .val (.int (1 : Int32))] [(.ref b63)])) rfl (by rw [hml]; rfl) (Steps.refl _) (argsL := []) (rest := []) (lenOf own_pd6 rfl) rfl (by show 2 * 0 + _ ≤ _; exact Nat.le_of_eq rfl) (hb hby at_299) (fun _ _ => ⟨rfl, e68, (by decide : 4 + 0 ≤ _), (by decide : 1051 + 0 ≤ _)⟩)
            dsimp only [Pt.U, Pt.locs, Pt.cells, Pt.slots] at X69 l69 y69 z69 st69 hQ69
            subst l69 y69 z69
            obtain ⟨rfl, N69q, e69⟩ := hQ69
            refine own_Fin.go (fun t k => st69.trans k) ?_
            have N69 := Fr.app N68 N69q
            show own_Fin _ _ _ _ _ _ _ (T69.setTop (mkF m 302 #[.val (.int va), .val (.int vb), .val (.int vc), .val (.int vd), .val (.int ve), .val (.int vf), .val (.ref b1), .val (.int oA), .val (.int nA), .val (.int oB), .val (.int nB), .val (.int oC), .val (.int nC), .val (.int (1 : Int32)), .val (.int (1 : Int32)), .val (.int (0 : Int32)), .val (.ref b63), .val (.int (1 : Int32))] [(.int (own_all (own_cp (own_cp (List.replicate 1024 (0 : Int32)) LS (0 : Int32) oA nA) LS (0 : Int32) oB nB) ((0 : Int32) + nB)))]))
            refine own_Fin.go (fun t k => XS.iload X69.here hx rfl (hb hby at_302) rfl k) ?_
            show own_Fin _ _ _ _ _ _ _ (T69.setTop (mkF m 304 #[.val (.int va), .val (.int vb), .val (.int vc), .val (.int vd), .val (.int ve), .val (.int vf), .val (.ref b1), .val (.int oA), .val (.int nA), .val (.int oB), .val (.int nB), .val (.int oC), .val (.int nC), .val (.int (1 : Int32)), .val (.int (1 : Int32)), .val (.int (0 : Int32)), .val (.ref b63), .val (.int (1 : Int32))] [(.int (1 : Int32)), (.int (own_all (own_cp (own_cp (List.replicate 1024 (0 : Int32)) LS (0 : Int32) oA nA) LS (0 : Int32) oB nB) ((0 : Int32) + nB)))]))
            have hc304 : (own_all (own_cp (own_cp (List.replicate 1024 (0 : Int32)) LS (0 : Int32) oA nA) LS (0 : Int32) oB nB) ((0 : Int32) + nB)) = (1 : Int32) := own_all1 hT67 (own_app own_nil (own_good hJ138.2.1 hc270))
            refine own_Fin.go (fun t k => XS.icmpNo X69.here hx rfl (hb hby at_304) rfl (Jvm.Free.XT.ii_ne_f hc304) k) ?_
            show own_Fin _ _ _ _ _ _ _ (T69.setTop (mkF m 307 #[.val (.int va), .val (.int vb), .val (.int vc), .val (.int vd), .val (.int ve), .val (.int vf), .val (.ref b1), .val (.int oA), .val (.int nA), .val (.int oB), .val (.int nB), .val (.int oC), .val (.int nC), .val (.int (1 : Int32)), .val (.int (1 : Int32)), .val (.int (0 : Int32)), .val (.ref b63), .val (.int (1 : Int32))] []))
            refine own_Fin.go (fun t k => XS.iconst X69.here hx rfl (hb hby at_307) k) ?_
            show own_Fin _ _ _ _ _ _ _ (T69.setTop (mkF m 308 #[.val (.int va), .val (.int vb), .val (.int vc), .val (.int vd), .val (.int ve), .val (.int vf), .val (.ref b1), .val (.int oA), .val (.int nA), .val (.int oB), .val (.int nB), .val (.int oC), .val (.int nC), .val (.int (1 : Int32)), .val (.int (1 : Int32)), .val (.int (0 : Int32)), .val (.ref b63), .val (.int (1 : Int32))] [(.int (1 : Int32))]))
            refine own_Fin.go (fun t k => XS.goto X69.here hx rfl (pc0 := 308) (pc' := 312) rfl (hb hby at_308) (by decide) (by decide) k) ?_
            show own_Fin _ _ _ _ _ _ _ (T69.setTop (mkF m 312 #[.val (.int va), .val (.int vb), .val (.int vc), .val (.int vd), .val (.int ve), .val (.int vf), .val (.ref b1), .val (.int oA), .val (.int nA), .val (.int oB), .val (.int nB), .val (.int oC), .val (.int nC), .val (.int (1 : Int32)), .val (.int (1 : Int32)), .val (.int (0 : Int32)), .val (.ref b63), .val (.int (1 : Int32))] [(.int (1 : Int32))]))
            refine own_retN X69 hx (t := .boolean) (w := (1 : Int32)) Bd.returns (by simp) (hb hby at_312) Bd.notSynchronized rfl (by decide) (by decide) ?_
            rw [e69]
            exact ⟨rfl, N69⟩
          · refine own_Fin.go (fun t k => XS.ifYes X68.here hx rfl (pc0 := 270) (pc' := 294) rfl (hb hby at_270) rfl (Jvm.Free.XT.i0_ne_t hc270) (by decide) (by decide) k) ?_
            show own_Fin _ _ _ _ _ _ _ (T68.setTop (mkF m 294 #[.val (.int va), .val (.int vb), .val (.int vc), .val (.int vd), .val (.int ve), .val (.int vf), .val (.ref b1), .val (.int oA), .val (.int nA), .val (.int oB), .val (.int nB), .val (.int oC), .val (.int nC), .val (.int (1 : Int32)), .val (.int (1 : Int32)), .val (.int (0 : Int32)), .val (.ref b63), .unset] []))
            refine own_Fin.go (fun t k => XS.iconst X68.here hx rfl (hb hby at_294) k) ?_
            show own_Fin _ _ _ _ _ _ _ (T68.setTop (mkF m 295 #[.val (.int va), .val (.int vb), .val (.int vc), .val (.int vd), .val (.int ve), .val (.int vf), .val (.ref b1), .val (.int oA), .val (.int nA), .val (.int oB), .val (.int nB), .val (.int oC), .val (.int nC), .val (.int (1 : Int32)), .val (.int (1 : Int32)), .val (.int (0 : Int32)), .val (.ref b63), .unset] [(.int (0 : Int32))]))
            refine own_Fin.go (fun t k => XS.istore X68.here hx rfl (hb hby at_295) rfl (l' := #[.val (.int va), .val (.int vb), .val (.int vc), .val (.int vd), .val (.int ve), .val (.int vf), .val (.ref b1), .val (.int oA), .val (.int nA), .val (.int oB), .val (.int nB), .val (.int oC), .val (.int nC), .val (.int (1 : Int32)), .val (.int (1 : Int32)), .val (.int (0 : Int32)), .val (.ref b63), .val (.int (0 : Int32))]) rfl k) ?_
            show own_Fin _ _ _ _ _ _ _ (T68.setTop (mkF m 297 #[.val (.int va), .val (.int vb), .val (.int vc), .val (.int vd), .val (.int ve), .val (.int vf), .val (.ref b1), .val (.int oA), .val (.int nA), .val (.int oB), .val (.int nB), .val (.int oC), .val (.int nC), .val (.int (1 : Int32)), .val (.int (1 : Int32)), .val (.int (0 : Int32)), .val (.ref b63), .val (.int (0 : Int32))] []))
            refine own_Fin.go (fun t k => XS.aload X68.here hx rfl (hb hby at_297) rfl rfl k) ?_
            show own_Fin _ _ _ _ _ _ _ (T68.setTop (mkF m 299 #[.val (.int va), .val (.int vb), .val (.int vc), .val (.int vd), .val (.int ve), .val (.int vf), .val (.ref b1), .val (.int oA), .val (.int nA), .val (.int oB), .val (.int nB), .val (.int oC), .val (.int nC), .val (.int (1 : Int32)), .val (.int (1 : Int32)), .val (.int (0 : Int32)), .val (.ref b63), .val (.int (0 : Int32))] [(.ref b63)]))
            obtain ⟨cq70, kq70, q70a, q70b, q70c⟩ := isOf hZ e68 c67_1
            obtain ⟨_, _, ⟨T70, L70, k70, n70⟩, -, X70, ⟨Lc70, hQ70, l70, y70, z70⟩, st70⟩ := X68.virtualBack hx (y := (⟨"com/example/wardkeeper/wardkeeper/hl7/Lines", "allAscii", "()Z"⟩ : MethodName)) (z := (⟨"com/example/wardkeeper/wardkeeper/hl7/Lines", "allAscii", "()Z"⟩ : MethodName)) hown (mvT hZ (hw _ (List.mem_of_getElem? (i := 42) rfl))) (mvT hZ (hw _ (List.mem_of_getElem? (i := 43) rfl))) (notFace_of_selects (args := #[]) (mvT hZ (hw _ (List.mem_of_getElem? (i := 45) rfl)))) (mvT hZ (hw _ (List.mem_of_getElem? (i := 45) rfl))) (mvT hZ (hw _ (List.mem_of_getElem? (i := 44) rfl))) (by decide) (backOf (W := 0) (own_rm_aa1 l Z a0 hw [] b63 ob64 kb64 (own_cp (own_cp (List.replicate 1024 (0 : Int32)) LS (0 : Int32) oA nA) LS (0 : Int32) oB nB) oe64 ke64 ((0 : Int32) + nB) (0 : Int32) (0 : Int32) T67.heap n0 Z67 c67_1 c67_2 c67_3 c67_4 c67_5 c67_6 (own_up hO67.1 (by decide)) hL67) hZ (hw _ (List.mem_of_getElem? (i := 46) rfl)) (hw _ (List.mem_of_getElem? (i := 3) rfl)) (by decide) (by decide)) q70a q70c (g := (mkF m 299 #[.val (.int va), .val (.int vb), .val (.int vc), .val (.int vd), .val (.int ve), .val (.int vf), .val (.ref b1), .val (.int oA), .val (.int nA), .val (.int oB), .val (.int nB), .val (.int oC), .val (.int nC), .val (.int (1 : Int32)), .val (.int (1 : Int32)), .val (.int (0 : Int32)), .val (.ref b63), .val (.int (0 : Int32))] [(.ref b63)])) rfl (by rw [hml]; rfl) (Steps.refl _) (argsL := []) (rest := []) (lenOf own_pd6 rfl) rfl (by show 2 * 0 + _ ≤ _; exact Nat.le_of_eq rfl) (hb hby at_299) (fun _ _ => ⟨rfl, e68, (by decide : 4 + 0 ≤ _), (by decide : 1051 + 0 ≤ _)⟩)
            dsimp only [Pt.U, Pt.locs, Pt.cells, Pt.slots] at X70 l70 y70 z70 st70 hQ70
            subst l70 y70 z70
            obtain ⟨rfl, N70q, e70⟩ := hQ70
            refine own_Fin.go (fun t k => st70.trans k) ?_
            have N70 := Fr.app N68 N70q
            show own_Fin _ _ _ _ _ _ _ (T70.setTop (mkF m 302 #[.val (.int va), .val (.int vb), .val (.int vc), .val (.int vd), .val (.int ve), .val (.int vf), .val (.ref b1), .val (.int oA), .val (.int nA), .val (.int oB), .val (.int nB), .val (.int oC), .val (.int nC), .val (.int (1 : Int32)), .val (.int (1 : Int32)), .val (.int (0 : Int32)), .val (.ref b63), .val (.int (0 : Int32))] [(.int (own_all (own_cp (own_cp (List.replicate 1024 (0 : Int32)) LS (0 : Int32) oA nA) LS (0 : Int32) oB nB) ((0 : Int32) + nB)))]))
            refine own_Fin.go (fun t k => XS.iload X70.here hx rfl (hb hby at_302) rfl k) ?_
            show own_Fin _ _ _ _ _ _ _ (T70.setTop (mkF m 304 #[.val (.int va), .val (.int vb), .val (.int vc), .val (.int vd), .val (.int ve), .val (.int vf), .val (.ref b1), .val (.int oA), .val (.int nA), .val (.int oB), .val (.int nB), .val (.int oC), .val (.int nC), .val (.int (1 : Int32)), .val (.int (1 : Int32)), .val (.int (0 : Int32)), .val (.ref b63), .val (.int (0 : Int32))] [(.int (0 : Int32)), (.int (own_all (own_cp (own_cp (List.replicate 1024 (0 : Int32)) LS (0 : Int32) oA nA) LS (0 : Int32) oB nB) ((0 : Int32) + nB)))]))
            have hc304 : (own_all (own_cp (own_cp (List.replicate 1024 (0 : Int32)) LS (0 : Int32) oA nA) LS (0 : Int32) oB nB) ((0 : Int32) + nB)) = (0 : Int32) := own_all0 hT67 (own_inr (own_evil hJ138.2.1 hc270))
            refine own_Fin.go (fun t k => XS.icmpNo X70.here hx rfl (hb hby at_304) rfl (Jvm.Free.XT.ii_ne_f hc304) k) ?_
            show own_Fin _ _ _ _ _ _ _ (T70.setTop (mkF m 307 #[.val (.int va), .val (.int vb), .val (.int vc), .val (.int vd), .val (.int ve), .val (.int vf), .val (.ref b1), .val (.int oA), .val (.int nA), .val (.int oB), .val (.int nB), .val (.int oC), .val (.int nC), .val (.int (1 : Int32)), .val (.int (1 : Int32)), .val (.int (0 : Int32)), .val (.ref b63), .val (.int (0 : Int32))] []))
            refine own_Fin.go (fun t k => XS.iconst X70.here hx rfl (hb hby at_307) k) ?_
            show own_Fin _ _ _ _ _ _ _ (T70.setTop (mkF m 308 #[.val (.int va), .val (.int vb), .val (.int vc), .val (.int vd), .val (.int ve), .val (.int vf), .val (.ref b1), .val (.int oA), .val (.int nA), .val (.int oB), .val (.int nB), .val (.int oC), .val (.int nC), .val (.int (1 : Int32)), .val (.int (1 : Int32)), .val (.int (0 : Int32)), .val (.ref b63), .val (.int (0 : Int32))] [(.int (1 : Int32))]))
            refine own_Fin.go (fun t k => XS.goto X70.here hx rfl (pc0 := 308) (pc' := 312) rfl (hb hby at_308) (by decide) (by decide) k) ?_
            show own_Fin _ _ _ _ _ _ _ (T70.setTop (mkF m 312 #[.val (.int va), .val (.int vb), .val (.int vc), .val (.int vd), .val (.int ve), .val (.int vf), .val (.ref b1), .val (.int oA), .val (.int nA), .val (.int oB), .val (.int nB), .val (.int oC), .val (.int nC), .val (.int (1 : Int32)), .val (.int (1 : Int32)), .val (.int (0 : Int32)), .val (.ref b63), .val (.int (0 : Int32))] [(.int (1 : Int32))]))
            refine own_retN X70 hx (t := .boolean) (w := (1 : Int32)) Bd.returns (by simp) (hb hby at_312) Bd.notSynchronized rfl (by decide) (by decide) ?_
            rw [e70]
            exact ⟨rfl, N70⟩
        · refine own_Fin.go (fun t k => XS.ifNo X9.here hx rfl (hb hby at_167) rfl (Jvm.Free.XT.i0_eq_f hc167) k) ?_
          show own_Fin _ _ _ _ _ _ _ (T9.setTop (mkF m 170 #[.val (.int va), .val (.int vb), .val (.int vc), .val (.int vd), .val (.int ve), .val (.int vf), .val (.ref b1), .val (.int oA), .val (.int nA), .val (.int oB), .val (.int nB), .val (.int oC), .val (.int nC), .val (.int (1 : Int32)), .val (.int (1 : Int32)), .unset, .unset, .unset] []))
          refine own_Fin.go (fun t k => XS.iconst X9.here hx rfl (hb hby at_170) k) ?_
          show own_Fin _ _ _ _ _ _ _ (T9.setTop (mkF m 171 #[.val (.int va), .val (.int vb), .val (.int vc), .val (.int vd), .val (.int ve), .val (.int vf), .val (.ref b1), .val (.int oA), .val (.int nA), .val (.int oB), .val (.int nB), .val (.int oC), .val (.int nC), .val (.int (1 : Int32)), .val (.int (1 : Int32)), .unset, .unset, .unset] [(.int (1 : Int32))]))
          refine own_Fin.go (fun t k => XS.goto X9.here hx rfl (pc0 := 171) (pc' := 175) rfl (hb hby at_171) (by decide) (by decide) k) ?_
          show own_Fin _ _ _ _ _ _ _ (T9.setTop (mkF m 175 #[.val (.int va), .val (.int vb), .val (.int vc), .val (.int vd), .val (.int ve), .val (.int vf), .val (.ref b1), .val (.int oA), .val (.int nA), .val (.int oB), .val (.int nB), .val (.int oC), .val (.int nC), .val (.int (1 : Int32)), .val (.int (1 : Int32)), .unset, .unset, .unset] [(.int (1 : Int32))]))
          refine own_Fin.go (fun t k => XS.istore X9.here hx rfl (hb hby at_175) rfl (l' := #[.val (.int va), .val (.int vb), .val (.int vc), .val (.int vd), .val (.int ve), .val (.int vf), .val (.ref b1), .val (.int oA), .val (.int nA), .val (.int oB), .val (.int nB), .val (.int oC), .val (.int nC), .val (.int (1 : Int32)), .val (.int (1 : Int32)), .val (.int (1 : Int32)), .unset, .unset]) rfl k) ?_
          show own_Fin _ _ _ _ _ _ _ (T9.setTop (mkF m 177 #[.val (.int va), .val (.int vb), .val (.int vc), .val (.int vd), .val (.int ve), .val (.int vf), .val (.ref b1), .val (.int oA), .val (.int nA), .val (.int oB), .val (.int nB), .val (.int oC), .val (.int nC), .val (.int (1 : Int32)), .val (.int (1 : Int32)), .val (.int (1 : Int32)), .unset, .unset] []))
          obtain ⟨T71, h71, X71, e71, E71, A71, D71, -, st71⟩ := newO X9 hx hZ hown (hw _ (List.mem_of_getElem? (i := 1) rfl)) (hw _ (List.mem_of_getElem? (i := 2) rfl)) (hw _ (List.mem_of_getElem? (i := 3) rfl)) e9 (g := (mkF m 177 #[.val (.int va), .val (.int vb), .val (.int vc), .val (.int vd), .val (.int ve), .val (.int vf), .val (.ref b1), .val (.int oA), .val (.int nA), .val (.int oB), .val (.int nB), .val (.int oC), .val (.int nC), .val (.int (1 : Int32)), .val (.int (1 : Int32)), .val (.int (1 : Int32)), .unset, .unset] [])) rfl (hb hby at_177) (by decide) (by decide)
          obtain ⟨b71, g71⟩ : ∃ z, z = h9.size := ⟨_, rfl⟩
          rw [← g71] at A71 D71 st71
          refine own_Fin.go st71 ?_
          have g_b71 : n0 ≤ b71 := Nat.le_trans Z9 (Nat.le_of_eq g71.symm)
          have ne_b1_b71 : b1 ≠ b71 := Nat.ne_of_lt (Nat.lt_of_lt_of_le VS.lt (Nat.le_of_eq g71.symm))
          have VS_71 := VS.ext E71
          have Z71 := Nat.le_trans Z9 E71.1
          have F_b71_bytes : Fld Z h71 b71 "com/example/wardkeeper/wardkeeper/hl7/Lines" "bytes" "[B" .null := D71 (Or.inl (hw _ (List.mem_of_getElem? (i := 11) rfl))) (ty := (.array .byte)) (by decide)
          have F_b71_ends : Fld Z h71 b71 "com/example/wardkeeper/wardkeeper/hl7/Lines" "ends" "[I" .null := D71 (Or.inl (hw _ (List.mem_of_getElem? (i := 14) rfl))) (ty := (.array .int)) (by decide)
          have F_b71_count : Fld Z h71 b71 "com/example/wardkeeper/wardkeeper/hl7/Lines" "count" "I" (.int (0 : Int32)) := D71 (Or.inl (hw _ (List.mem_of_getElem? (i := 21) rfl))) (ty := .int) (by decide)
          show own_Fin _ _ _ _ _ _ _ (T71.setTop (mkF m 180 #[.val (.int va), .val (.int vb), .val (.int vc), .val (.int vd), .val (.int ve), .val (.int vf), .val (.ref b1), .val (.int oA), .val (.int nA), .val (.int oB), .val (.int nB), .val (.int oC), .val (.int nC), .val (.int (1 : Int32)), .val (.int (1 : Int32)), .val (.int (1 : Int32)), .unset, .unset] [(.ref b71)]))
          refine own_Fin.go (fun t k => XS.dup X71.here hx rfl (hb hby at_180) rfl rfl k) ?_
          show own_Fin _ _ _ _ _ _ _ (T71.setTop (mkF m 181 #[.val (.int va), .val (.int vb), .val (.int vc), .val (.int vd), .val (.int ve), .val (.int vf), .val (.ref b1), .val (.int oA), .val (.int nA), .val (.int oB), .val (.int nB), .val (.int oC), .val (.int nC), .val (.int (1 : Int32)), .val (.int (1 : Int32)), .val (.int (1 : Int32)), .unset, .unset] [(.ref b71), (.ref b71)]))
          obtain ⟨_, _, ⟨T72, L72, k72, n72⟩, -, X72, ⟨Lc72, hQ72, l72, y72, z72⟩, st72⟩ := X71.specialBack hx (y := (⟨"com/example/wardkeeper/wardkeeper/hl7/Lines", "<init>", "()V"⟩ : MethodName)) rfl hown (mvT hZ (hw _ (List.mem_of_getElem? (i := 4) rfl))) (mvT hZ (hw _ (List.mem_of_getElem? (i := 5) rfl))) (mvT hZ (hw _ (List.mem_of_getElem? (i := 6) rfl))) (by decide) (backOf (W := 1) (own_rm_ini l Z a0 hw [] b71  h71 n0 Z71 A71 F_b71_bytes F_b71_ends F_b71_count g_b71) hZ (hw _ (List.mem_of_getElem? (i := 6) rfl)) (hw _ (List.mem_of_getElem? (i := 3) rfl)) (by decide) (by decide)) (g := (mkF m 181 #[.val (.int va), .val (.int vb), .val (.int vc), .val (.int vd), .val (.int ve), .val (.int vf), .val (.ref b1), .val (.int oA), .val (.int nA), .val (.int oB), .val (.int nB), .val (.int oC), .val (.int nC), .val (.int (1 : Int32)), .val (.int (1 : Int32)), .val (.int (1 : Int32)), .unset, .unset] [(.ref b71), (.ref b71)])) rfl (by rw [hml]; rfl) (Steps.refl _) (a := b71) (argsL := []) (rest := [(.ref b71)]) (lenOf own_pd3 rfl) rfl (by show 2 * 0 + _ ≤ _; exact Nat.le_of_eq rfl) (hb hby at_181) (fun _ _ => ⟨rfl, e71, (by decide : 2 + 2 ≤ _), (by decide : 11 + 1040 ≤ _)⟩)
          dsimp only [Pt.U, Pt.locs, Pt.cells, Pt.slots] at X72 l72 y72 z72 st72 hQ72
          subst l72 y72 z72
          obtain ⟨ob72, oe72, kb72, ke72, rfl, N72q, K72q, c72_1, c72_2, c72_3, c72_4, c72_5, c72_6, c72_7, c72_8, c72_9, c72_10, c72_11⟩ := hQ72
          refine own_Fin.go (fun t k => st72.trans k) ?_
          have N72 := Fr.app N9 N72q
          have VS_72 := VS_71.keep K72q (ninS ne_b1_b71 nin0)
          have Z72 := Nat.le_trans Z71 K72q.1
          have ne_b1_ob72 : b1 ≠ ob72 := Nat.ne_of_lt (Nat.lt_of_lt_of_le VS_71.lt c72_7)
          have ne_b71_ob72 : b71 ≠ ob72 := Nat.ne_of_lt (Nat.lt_of_lt_of_le F_b71_count.lt c72_7)
          have g_ob72 : n0 ≤ ob72 := Nat.le_trans Z71 c72_7
          have ne_b1_oe72 : b1 ≠ oe72 := Nat.ne_of_lt (Nat.lt_of_lt_of_le VS_71.lt c72_8)
          have ne_b71_oe72 : b71 ≠ oe72 := Nat.ne_of_lt (Nat.lt_of_lt_of_le F_b71_count.lt c72_8)
          have g_oe72 : n0 ≤ oe72 := Nat.le_trans Z71 c72_8
          show own_Fin _ _ _ _ _ _ _ (T72.setTop (mkF m 184 #[.val (.int va), .val (.int vb), .val (.int vc), .val (.int vd), .val (.int ve), .val (.int vf), .val (.ref b1), .val (.int oA), .val (.int nA), .val (.int oB), .val (.int nB), .val (.int oC), .val (.int nC), .val (.int (1 : Int32)), .val (.int (1 : Int32)), .val (.int (1 : Int32)), .unset, .unset] [(.ref b71)]))
          refine own_Fin.go (fun t k => XS.astore X72.here hx rfl (hb hby at_184) rfl rfl (l' := #[.val (.int va), .val (.int vb), .val (.int vc), .val (.int vd), .val (.int ve), .val (.int vf), .val (.ref b1), .val (.int oA), .val (.int nA), .val (.int oB), .val (.int nB), .val (.int oC), .val (.int nC), .val (.int (1 : Int32)), .val (.int (1 : Int32)), .val (.int (1 : Int32)), .val (.ref b71), .unset]) rfl k) ?_
          show own_Fin _ _ _ _ _ _ _ (T72.setTop (mkF m 186 #[.val (.int va), .val (.int vb), .val (.int vc), .val (.int vd), .val (.int ve), .val (.int vf), .val (.ref b1), .val (.int oA), .val (.int nA), .val (.int oB), .val (.int nB), .val (.int oC), .val (.int nC), .val (.int (1 : Int32)), .val (.int (1 : Int32)), .val (.int (1 : Int32)), .val (.ref b71), .unset] []))
          refine own_Fin.go (fun t k => XS.iload X72.here hx rfl (hb hby at_186) rfl k) ?_
          show own_Fin _ _ _ _ _ _ _ (T72.setTop (mkF m 188 #[.val (.int va), .val (.int vb), .val (.int vc), .val (.int vd), .val (.int ve), .val (.int vf), .val (.ref b1), .val (.int oA), .val (.int nA), .val (.int oB), .val (.int nB), .val (.int oC), .val (.int nC), .val (.int (1 : Int32)), .val (.int (1 : Int32)), .val (.int (1 : Int32)), .val (.ref b71), .unset] [(.int (1 : Int32))]))
          refine own_Fin.go (fun t k => XS.ifNo X72.here hx rfl (hb hby at_188) rfl (by decide) k) ?_
          show own_Fin _ _ _ _ _ _ _ (T72.setTop (mkF m 191 #[.val (.int va), .val (.int vb), .val (.int vc), .val (.int vd), .val (.int ve), .val (.int vf), .val (.ref b1), .val (.int oA), .val (.int nA), .val (.int oB), .val (.int nB), .val (.int oC), .val (.int nC), .val (.int (1 : Int32)), .val (.int (1 : Int32)), .val (.int (1 : Int32)), .val (.ref b71), .unset] []))
          refine own_Fin.go (fun t k => XS.aload X72.here hx rfl (hb hby at_191) rfl rfl k) ?_
          show own_Fin _ _ _ _ _ _ _ (T72.setTop (mkF m 193 #[.val (.int va), .val (.int vb), .val (.int vc), .val (.int vd), .val (.int ve), .val (.int vf), .val (.ref b1), .val (.int oA), .val (.int nA), .val (.int oB), .val (.int nB), .val (.int oC), .val (.int nC), .val (.int (1 : Int32)), .val (.int (1 : Int32)), .val (.int (1 : Int32)), .val (.ref b71), .unset] [(.ref b71)]))
          refine own_Fin.go (fun t k => XS.aload X72.here hx rfl (hb hby at_193) rfl rfl k) ?_
          show own_Fin _ _ _ _ _ _ _ (T72.setTop (mkF m 195 #[.val (.int va), .val (.int vb), .val (.int vc), .val (.int vd), .val (.int ve), .val (.int vf), .val (.ref b1), .val (.int oA), .val (.int nA), .val (.int oB), .val (.int nB), .val (.int oC), .val (.int nC), .val (.int (1 : Int32)), .val (.int (1 : Int32)), .val (.int (1 : Int32)), .val (.ref b71), .unset] [(.ref b1), (.ref b71)]))
          refine own_Fin.go (fun t k => XS.iload X72.here hx rfl (hb hby at_195) rfl k) ?_
          show own_Fin _ _ _ _ _ _ _ (T72.setTop (mkF m 197 #[.val (.int va), .val (.int vb), .val (.int vc), .val (.int vd), .val (.int ve), .val (.int vf), .val (.ref b1), .val (.int oA), .val (.int nA), .val (.int oB), .val (.int nB), .val (.int oC), .val (.int nC), .val (.int (1 : Int32)), .val (.int (1 : Int32)), .val (.int (1 : Int32)), .val (.ref b71), .unset] [(.int oA), (.ref b1), (.ref b71)]))
          refine own_Fin.go (fun t k => XS.iload X72.here hx rfl (hb hby at_197) rfl k) ?_
          show own_Fin _ _ _ _ _ _ _ (T72.setTop (mkF m 199 #[.val (.int va), .val (.int vb), .val (.int vc), .val (.int vd), .val (.int ve), .val (.int vf), .val (.ref b1), .val (.int oA), .val (.int nA), .val (.int oB), .val (.int nB), .val (.int oC), .val (.int nC), .val (.int (1 : Int32)), .val (.int (1 : Int32)), .val (.int (1 : Int32)), .val (.ref b71), .unset] [(.int nA), (.int oA), (.ref b1), (.ref b71)]))
          obtain ⟨cq73, kq73, q73a, q73b, q73c⟩ := isOf hZ rfl c72_1
          obtain ⟨_, _, ⟨T73, L73, k73, n73⟩, -, X73, ⟨Lc73, hQ73, l73, y73, z73⟩, st73⟩ := X72.virtualBack hx (y := (⟨"com/example/wardkeeper/wardkeeper/hl7/Lines", "add", "([BII)V"⟩ : MethodName)) (z := (⟨"com/example/wardkeeper/wardkeeper/hl7/Lines", "add", "([BII)V"⟩ : MethodName)) hown (mvT hZ (hw _ (List.mem_of_getElem? (i := 22) rfl))) (mvT hZ (hw _ (List.mem_of_getElem? (i := 23) rfl))) (notFace_of_selects (args := #[]) (mvT hZ (hw _ (List.mem_of_getElem? (i := 25) rfl)))) (mvT hZ (hw _ (List.mem_of_getElem? (i := 25) rfl))) (mvT hZ (hw _ (List.mem_of_getElem? (i := 24) rfl))) (by decide) (backOf (W := 0) (own_rm_add0 l Z a0 hw [] b71 b1 oA nA ob72 kb72 k1 (List.replicate 1024 (0 : Int32)) LS oe72 ke72 (0 : Int32) (0 : Int32) (0 : Int32) T72.heap n0 Z72 c72_1 c72_2 c72_3 c72_4 c72_5 c72_6 VS_72 g_b71 g_ob72 g_oe72 c72_9 c72_10 c72_11 ne_b1_b71 ne_b1_ob72 ne_b1_oe72 hJ138.1 (⟨by decide, by decide⟩ : own_ok 100 0) (by rw [List.length_replicate])) hZ (hw _ (List.mem_of_getElem? (i := 26) rfl)) (hw _ (List.mem_of_getElem? (i := 3) rfl)) (by decide) (by decide)) q73a q73c (g := (mkF m 199 #[.val (.int va), .val (.int vb), .val (.int vc), .val (.int vd), .val (.int ve), .val (.int vf), .val (.ref b1), .val (.int oA), .val (.int nA), .val (.int oB), .val (.int nB), .val (.int oC), .val (.int nC), .val (.int (1 : Int32)), .val (.int (1 : Int32)), .val (.int (1 : Int32)), .val (.ref b71), .unset] [(.int nA), (.int oA), (.ref b1), (.ref b71)])) rfl (by rw [hml]; rfl) (Steps.refl _) (argsL := [(.ref b1), (.int oA), (.int nA)]) (rest := []) (lenOf own_pd4 rfl) rfl (by show 2 * 0 + _ ≤ _; exact Nat.le_of_eq rfl) (hb hby at_199) (fun _ _ => ⟨rfl, rfl, (by decide : 4 + 0 ≤ _), (by decide : 1051 + 0 ≤ _)⟩)
          dsimp only [Pt.U, Pt.locs, Pt.cells, Pt.slots] at X73 l73 y73 z73 st73 hQ73
          subst l73 y73 z73
          obtain ⟨rfl, N73q, K73q, c73_1, c73_2, c73_3, c73_4, c73_5, c73_6⟩ := hQ73
          refine own_Fin.go (fun t k => st73.trans k) ?_
          have N73 := Fr.app N72 N73q
          have VS_73 := VS_72.keep K73q (ninS ne_b1_b71 (ninS ne_b1_ob72 (ninS ne_b1_oe72 nin0)))
          have Z73 := Nat.le_trans Z72 K73q.1
          have hO73 := own_next (⟨by decide, by decide⟩ : own_ok 0 0) (by decide) hJ138.1
          have hT73 := own_cpTake (LB := (List.replicate 1024 (0 : Int32))) (LS := LS) (S := (0 : Int32)) (o := oA) (n := nA) (by rw [List.length_replicate]) (own_up (⟨by decide, by decide⟩ : own_ok 0 0) (by decide)) hJ138.1
          rw [← hO73.2] at hT73
          have hL73 := own_cpLen (LB := (List.replicate 1024 (0 : Int32))) (LS := LS) (S := (0 : Int32)) (o := oA) (n := nA) (by rw [List.length_replicate]) (own_up (⟨by decide, by decide⟩ : own_ok 0 0) (by decide)) hJ138.1
          show own_Fin _ _ _ _ _ _ _ (T73.setTop (mkF m 202 #[.val (.int va), .val (.int vb), .val (.int vc), .val (.int vd), .val (.int ve), .val (.int vf), .val (.ref b1), .val (.int oA), .val (.int nA), .val (.int oB), .val (.int nB), .val (.int oC), .val (.int nC), .val (.int (1 : Int32)), .val (.int (1 : Int32)), .val (.int (1 : Int32)), .val (.ref b71), .unset] []))
          refine own_Fin.go (fun t k => XS.iload X73.here hx rfl (hb hby at_202) rfl k) ?_
          show own_Fin _ _ _ _ _ _ _ (T73.setTop (mkF m 204 #[.val (.int va), .val (.int vb), .val (.int vc), .val (.int vd), .val (.int ve), .val (.int vf), .val (.ref b1), .val (.int oA), .val (.int nA), .val (.int oB), .val (.int nB), .val (.int oC), .val (.int nC), .val (.int (1 : Int32)), .val (.int (1 : Int32)), .val (.int (1 : Int32)), .val (.ref b71), .unset] [(.int (1 : Int32))]))
          refine own_Fin.go (fun t k => XS.ifNo X73.here hx rfl (hb hby at_204) rfl (by decide) k) ?_
          show own_Fin _ _ _ _ _ _ _ (T73.setTop (mkF m 207 #[.val (.int va), .val (.int vb), .val (.int vc), .val (.int vd), .val (.int ve), .val (.int vf), .val (.ref b1), .val (.int oA), .val (.int nA), .val (.int oB), .val (.int nB), .val (.int oC), .val (.int nC), .val (.int (1 : Int32)), .val (.int (1 : Int32)), .val (.int (1 : Int32)), .val (.ref b71), .unset] []))
          refine own_Fin.go (fun t k => XS.aload X73.here hx rfl (hb hby at_207) rfl rfl k) ?_
          show own_Fin _ _ _ _ _ _ _ (T73.setTop (mkF m 209 #[.val (.int va), .val (.int vb), .val (.int vc), .val (.int vd), .val (.int ve), .val (.int vf), .val (.ref b1), .val (.int oA), .val (.int nA), .val (.int oB), .val (.int nB), .val (.int oC), .val (.int nC), .val (.int (1 : Int32)), .val (.int (1 : Int32)), .val (.int (1 : Int32)), .val (.ref b71), .unset] [(.ref b71)]))
          obtain ⟨cq74, kq74, q74a, q74b, q74c⟩ := isOf hZ rfl c73_1
          obtain ⟨_, _, ⟨T74, L74, k74, n74⟩, -, X74, ⟨Lc74, hQ74, l74, y74, z74⟩, st74⟩ := X73.virtualBack hx (y := (⟨"com/example/wardkeeper/wardkeeper/hl7/Lines", "clear", "()V"⟩ : MethodName)) (z := (⟨"com/example/wardkeeper/wardkeeper/hl7/Lines", "clear", "()V"⟩ : MethodName)) hown (mvT hZ (hw _ (List.mem_of_getElem? (i := 15) rfl))) (mvT hZ (hw _ (List.mem_of_getElem? (i := 16) rfl))) (notFace_of_selects (args := #[]) (mvT hZ (hw _ (List.mem_of_getElem? (i := 18) rfl)))) (mvT hZ (hw _ (List.mem_of_getElem? (i := 18) rfl))) (mvT hZ (hw _ (List.mem_of_getElem? (i := 17) rfl))) (by decide) (backOf (W := 0) (own_rm_clr l Z a0 hw [] b71 ob72 oe72 (1 : Int32) T73.heap n0 Z73 c73_1 c73_2 c73_3 c73_4 g_b71) hZ (hw _ (List.mem_of_getElem? (i := 19) rfl)) (hw _ (List.mem_of_getElem? (i := 3) rfl)) (by decide) (by decide)) q74a q74c (g := (mkF m 209 #[.val (.int va), .val (.int vb), .val (.int vc), .val (.int vd), .val (.int ve), .val (.int vf), .val (.ref b1), .val (.int oA), .val (.int nA), .val (.int oB), .val (.int nB), .val (.int oC), .val (.int nC), .val (.int (1 : Int32)), .val (.int (1 : Int32)), .val (.int (1 : Int32)), .val (.ref b71), .unset] [(.ref b71)])) rfl (by rw [hml]; rfl) (Steps.refl _) (argsL := []) (rest := []) (lenOf own_pd3 rfl) rfl (by show 2 * 0 + _ ≤ _; exact Nat.le_of_eq rfl) (hb hby at_209) (fun _ _ => ⟨rfl, rfl, (by decide : 4 + 0 ≤ _), (by decide : 1051 + 0 ≤ _)⟩)
          dsimp only [Pt.U, Pt.locs, Pt.cells, Pt.slots] at X74 l74 y74 z74 st74 hQ74
          subst l74 y74 z74
          obtain ⟨rfl, N74q, K74q, c74_1, c74_2, c74_3, c74_4⟩ := hQ74
          refine own_Fin.go (fun t k => st74.trans k) ?_
          have N74 := Fr.app N73 N74q
          have VS_74 := VS_73.keep K74q (ninS ne_b1_b71 nin0)
          have V_ob72_74 := c73_5.keep K74q (ninS (Ne.symm c72_9) nin0)
          have V_oe72_74 := c73_6.keep K74q (ninS (Ne.symm c72_10) nin0)
          have Z74 := Nat.le_trans Z73 K74q.1
          show own_Fin _ _ _ _ _ _ _ (T74.setTop (mkF m 212 #[.val (.int va), .val (.int vb), .val (.int vc), .val (.int vd), .val (.int ve), .val (.int vf), .val (.ref b1), .val (.int oA), .val (.int nA), .val (.int oB), .val (.int nB), .val (.int oC), .val (.int nC), .val (.int (1 : Int32)), .val (.int (1 : Int32)), .val (.int (1 : Int32)), .val (.ref b71), .unset] []))
          refine own_Fin.go (fun t k => XS.aload X74.here hx rfl (hb hby at_212) rfl rfl k) ?_
          show own_Fin _ _ _ _ _ _ _ (T74.setTop (mkF m 214 #[.val (.int va), .val (.int vb), .val (.int vc), .val (.int vd), .val (.int ve), .val (.int vf), .val (.ref b1), .val (.int oA), .val (.int nA), .val (.int oB), .val (.int nB), .val (.int oC), .val (.int nC), .val (.int (1 : Int32)), .val (.int (1 : Int32)), .val (.int (1 : Int32)), .val (.ref b71), .unset] [(.ref b71)]))
          refine own_Fin.go (fun t k => XS.aload X74.here hx rfl (hb hby at_214) rfl rfl k) ?_
          show own_Fin _ _ _ _ _ _ _ (T74.setTop (mkF m 216 #[.val (.int va), .val (.int vb), .val (.int vc), .val (.int vd), .val (.int ve), .val (.int vf), .val (.ref b1), .val (.int oA), .val (.int nA), .val (.int oB), .val (.int nB), .val (.int oC), .val (.int nC), .val (.int (1 : Int32)), .val (.int (1 : Int32)), .val (.int (1 : Int32)), .val (.ref b71), .unset] [(.ref b1), (.ref b71)]))
          refine own_Fin.go (fun t k => XS.iload X74.here hx rfl (hb hby at_216) rfl k) ?_
          show own_Fin _ _ _ _ _ _ _ (T74.setTop (mkF m 218 #[.val (.int va), .val (.int vb), .val (.int vc), .val (.int vd), .val (.int ve), .val (.int vf), .val (.ref b1), .val (.int oA), .val (.int nA), .val (.int oB), .val (.int nB), .val (.int oC), .val (.int nC), .val (.int (1 : Int32)), .val (.int (1 : Int32)), .val (.int (1 : Int32)), .val (.ref b71), .unset] [(.int oB), (.ref b1), (.ref b71)]))
          refine own_Fin.go (fun t k => XS.iload X74.here hx rfl (hb hby at_218) rfl k) ?_
          show own_Fin _ _ _ _ _ _ _ (T74.setTop (mkF m 220 #[.val (.int va), .val (.int vb), .val (.int vc), .val (.int vd), .val (.int ve), .val (.int vf), .val (.ref b1), .val (.int oA), .val (.int nA), .val (.int oB), .val (.int nB), .val (.int oC), .val (.int nC), .val (.int (1 : Int32)), .val (.int (1 : Int32)), .val (.int (1 : Int32)), .val (.ref b71), .unset] [(.int nB), (.int oB), (.ref b1), (.ref b71)]))
          obtain ⟨cq75, kq75, q75a, q75b, q75c⟩ := isOf hZ rfl c74_1
          obtain ⟨_, _, ⟨T75, L75, k75, n75⟩, -, X75, ⟨Lc75, hQ75, l75, y75, z75⟩, st75⟩ := X74.virtualBack hx (y := (⟨"com/example/wardkeeper/wardkeeper/hl7/Lines", "add", "([BII)V"⟩ : MethodName)) (z := (⟨"com/example/wardkeeper/wardkeeper/hl7/Lines", "add", "([BII)V"⟩ : MethodName)) hown (mvT hZ (hw _ (List.mem_of_getElem? (i := 22) rfl))) (mvT hZ (hw _ (List.mem_of_getElem? (i := 23) rfl))) (notFace_of_selects (args := #[]) (mvT hZ (hw _ (List.mem_of_getElem? (i := 25) rfl)))) (mvT hZ (hw _ (List.mem_of_getElem? (i := 25) rfl))) (mvT hZ (hw _ (List.mem_of_getElem? (i := 24) rfl))) (by decide) (backOf (W := 0) (own_rm_add0 l Z a0 hw [] b71 b1 oB nB ob72 kb72 k1 (own_cp (List.replicate 1024 (0 : Int32)) LS (0 : Int32) oA nA) LS oe72 ke72 ((0 : Int32) + nA) (0 : Int32) (0 : Int32) T74.heap n0 Z74 c74_1 c74_2 c74_3 c74_4 V_ob72_74 V_oe72_74 VS_74 g_b71 g_ob72 g_oe72 c72_9 c72_10 c72_11 ne_b1_b71 ne_b1_ob72 ne_b1_oe72 hJ138.2.1 (⟨by decide, by decide⟩ : own_ok 100 0) hL73) hZ (hw _ (List.mem_of_getElem? (i := 26) rfl)) (hw _ (List.mem_of_getElem? (i := 3) rfl)) (by decide) (by decide)) q75a q75c (g := (mkF m 220 #[.val (.int va), .val (.int vb), .val (.int vc), .val (.int vd), .val (.int ve), .val (.int vf), .val (.ref b1), .val (.int oA), .val (.int nA), .val (.int oB), .val (.int nB), .val (.int oC), .val (.int nC), .val (.int (1 : Int32)), .val (.int (1 : Int32)), .val (.int (1 : Int32)), .val (.ref b71), .unset] [(.int nB), (.int oB), (.ref b1), (.ref b71)])) rfl (by rw [hml]; rfl) (Steps.refl _) (argsL := [(.ref b1), (.int oB), (.int nB)]) (rest := []) (lenOf own_pd4 rfl) rfl (by show 2 * 0 + _ ≤ _; exact Nat.le_of_eq rfl) (hb hby at_220) (fun _ _ => ⟨rfl, rfl, (by decide : 4 + 0 ≤ _), (by decide : 1051 + 0 ≤ _)⟩)
          dsimp only [Pt.U, Pt.locs, Pt.cells, Pt.slots] at X75 l75 y75 z75 st75 hQ75
          subst l75 y75 z75
          obtain ⟨rfl, N75q, K75q, c75_1, c75_2, c75_3, c75_4, c75_5, c75_6⟩ := hQ75
          refine own_Fin.go (fun t k => st75.trans k) ?_
          have N75 := Fr.app N74 N75q
          have VS_75 := VS_74.keep K75q (ninS ne_b1_b71 (ninS ne_b1_ob72 (ninS ne_b1_oe72 nin0)))
          have Z75 := Nat.le_trans Z74 K75q.1
          have hO75 := own_next (⟨by decide, by decide⟩ : own_ok 0 0) (by decide) hJ138.2.1
          have hT75 := own_cpTake (LB := (own_cp (List.replicate 1024 (0 : Int32)) LS (0 : Int32) oA nA)) (LS := LS) (S := (0 : Int32)) (o := oB) (n := nB) hL73 (own_up (⟨by decide, by decide⟩ : own_ok 0 0) (by decide)) hJ138.2.1
          rw [← hO75.2] at hT75
          have hL75 := own_cpLen (LB := (own_cp (List.replicate 1024 (0 : Int32)) LS (0 : Int32) oA nA)) (LS := LS) (S := (0 : Int32)) (o := oB) (n := nB) hL73 (own_up (⟨by decide, by decide⟩ : own_ok 0 0) (by decide)) hJ138.2.1
          show own_Fin _ _ _ _ _ _ _ (T75.setTop (mkF m 223 #[.val (.int va), .val (.int vb), .val (.int vc), .val (.int vd), .val (.int ve), .val (.int vf), .val (.ref b1), .val (.int oA), .val (.int nA), .val (.int oB), .val (.int nB), .val (.int oC), .val (.int nC), .val (.int (1 : Int32)), .val (.int (1 : Int32)), .val (.int (1 : Int32)), .val (.ref b71), .unset] []))
          refine own_Fin.go (fun t k => XS.iload X75.here hx rfl (hb hby at_223) rfl k) ?_
          show own_Fin _ _ _ _ _ _ _ (T75.setTop (mkF m 225 #[.val (.int va), .val (.int vb), .val (.int vc), .val (.int vd), .val (.int ve), .val (.int vf), .val (.ref b1), .val (.int oA), .val (.int nA), .val (.int oB), .val (.int nB), .val (.int oC), .val (.int nC), .val (.int (1 : Int32)), .val (.int (1 : Int32)), .val (.int (1 : Int32)), .val (.ref b71), .unset] [(.int (1 : Int32))]))
          refine own_Fin.go (fun t k => XS.ifNo X75.here hx rfl (hb hby at_225) rfl (by decide) k) ?_
          show own_Fin _ _ _ _ _ _ _ (T75.setTop (mkF m 228 #[.val (.int va), .val (.int vb), .val (.int vc), .val (.int vd), .val (.int ve), .val (.int vf), .val (.ref b1), .val (.int oA), .val (.int nA), .val (.int oB), .val (.int nB), .val (.int oC), .val (.int nC), .val (.int (1 : Int32)), .val (.int (1 : Int32)), .val (.int (1 : Int32)), .val (.ref b71), .unset] []))
          refine own_Fin.go (fun t k => XS.aload X75.here hx rfl (hb hby at_228) rfl rfl k) ?_
          show own_Fin _ _ _ _ _ _ _ (T75.setTop (mkF m 230 #[.val (.int va), .val (.int vb), .val (.int vc), .val (.int vd), .val (.int ve), .val (.int vf), .val (.ref b1), .val (.int oA), .val (.int nA), .val (.int oB), .val (.int nB), .val (.int oC), .val (.int nC), .val (.int (1 : Int32)), .val (.int (1 : Int32)), .val (.int (1 : Int32)), .val (.ref b71), .unset] [(.ref b71)]))
          refine own_Fin.go (fun t k => XS.aload X75.here hx rfl (hb hby at_230) rfl rfl k) ?_
          show own_Fin _ _ _ _ _ _ _ (T75.setTop (mkF m 232 #[.val (.int va), .val (.int vb), .val (.int vc), .val (.int vd), .val (.int ve), .val (.int vf), .val (.ref b1), .val (.int oA), .val (.int nA), .val (.int oB), .val (.int nB), .val (.int oC), .val (.int nC), .val (.int (1 : Int32)), .val (.int (1 : Int32)), .val (.int (1 : Int32)), .val (.ref b71), .unset] [(.ref b1), (.ref b71)]))
          refine own_Fin.go (fun t k => XS.iload X75.here hx rfl (hb hby at_232) rfl k) ?_
          show own_Fin _ _ _ _ _ _ _ (T75.setTop (mkF m 234 #[.val (.int va), .val (.int vb), .val (.int vc), .val (.int vd), .val (.int ve), .val (.int vf), .val (.ref b1), .val (.int oA), .val (.int nA), .val (.int oB), .val (.int nB), .val (.int oC), .val (.int nC), .val (.int (1 : Int32)), .val (.int (1 : Int32)), .val (.int (1 : Int32)), .val (.ref b71), .unset] [(.int oC), (.ref b1), (.ref b71)]))
          refine own_Fin.go (fun t k => XS.iload X75.here hx rfl (hb hby at_234) rfl k) ?_
          show own_Fin _ _ _ _ _ _ _ (T75.setTop (mkF m 236 #[.val (.int va), .val (.int vb), .val (.int vc), .val (.int vd), .val (.int ve), .val (.int vf), .val (.ref b1), .val (.int oA), .val (.int nA), .val (.int oB), .val (.int nB), .val (.int oC), .val (.int nC), .val (.int (1 : Int32)), .val (.int (1 : Int32)), .val (.int (1 : Int32)), .val (.ref b71), .unset] [(.int nC), (.int oC), (.ref b1), (.ref b71)]))
          obtain ⟨cq76, kq76, q76a, q76b, q76c⟩ := isOf hZ rfl c75_1
          obtain ⟨_, _, ⟨T76, L76, k76, n76⟩, -, X76, ⟨Lc76, hQ76, l76, y76, z76⟩, st76⟩ := X75.virtualBack hx (y := (⟨"com/example/wardkeeper/wardkeeper/hl7/Lines", "add", "([BII)V"⟩ : MethodName)) (z := (⟨"com/example/wardkeeper/wardkeeper/hl7/Lines", "add", "([BII)V"⟩ : MethodName)) hown (mvT hZ (hw _ (List.mem_of_getElem? (i := 22) rfl))) (mvT hZ (hw _ (List.mem_of_getElem? (i := 23) rfl))) (notFace_of_selects (args := #[]) (mvT hZ (hw _ (List.mem_of_getElem? (i := 25) rfl)))) (mvT hZ (hw _ (List.mem_of_getElem? (i := 25) rfl))) (mvT hZ (hw _ (List.mem_of_getElem? (i := 24) rfl))) (by decide) (backOf (W := 0) (own_rm_add1 l Z a0 hw [] b71 b1 oC nC ob72 kb72 k1 (own_cp (own_cp (List.replicate 1024 (0 : Int32)) LS (0 : Int32) oA nA) LS (0 : Int32) oB nB) LS oe72 ke72 ((0 : Int32) + nB) (0 : Int32) (0 : Int32) T75.heap n0 Z75 c75_1 c75_2 c75_3 c75_4 c75_5 c75_6 VS_75 g_b71 g_ob72 g_oe72 c72_9 c72_10 c72_11 ne_b1_b71 ne_b1_ob72 ne_b1_oe72 hJ138.2.2 (own_up hO75.1 (by decide)) hL75) hZ (hw _ (List.mem_of_getElem? (i := 26) rfl)) (hw _ (List.mem_of_getElem? (i := 3) rfl)) (by decide) (by decide)) q76a q76c (g := (mkF m 236 #[.val (.int va), .val (.int vb), .val (.int vc), .val (.int vd), .val (.int ve), .val (.int vf), .val (.ref b1), .val (.int oA), .val (.int nA), .val (.int oB), .val (.int nB), .val (.int oC), .val (.int nC), .val (.int (1 : Int32)), .val (.int (1 : Int32)), .val (.int (1 : Int32)), .val (.ref b71), .unset] [(.int nC), (.int oC), (.ref b1), (.ref b71)])) rfl (by rw [hml]; rfl) (Steps.refl _) (argsL := [(.ref b1), (.int oC), (.int nC)]) (rest := []) (lenOf own_pd4 rfl) rfl (by show 2 * 0 + _ ≤ _; exact Nat.le_of_eq rfl) (hb hby at_236) (fun _ _ => ⟨rfl, rfl, (by decide : 4 + 0 ≤ _), (by decide : 1051 + 0 ≤ _)⟩)
          dsimp only [Pt.U, Pt.locs, Pt.cells, Pt.slots] at X76 l76 y76 z76 st76 hQ76
          subst l76 y76 z76
          obtain ⟨rfl, N76q, K76q, c76_1, c76_2, c76_3, c76_4, c76_5, c76_6⟩ := hQ76
          refine own_Fin.go (fun t k => st76.trans k) ?_
          have N76 := Fr.app N75 N76q
          have VS_76 := VS_75.keep K76q (ninS ne_b1_b71 (ninS ne_b1_ob72 (ninS ne_b1_oe72 nin0)))
          have Z76 := Nat.le_trans Z75 K76q.1
          have hO76 := own_next hO75.1 (by decide) hJ138.2.2
          have hT76 := own_cpTake (LB := (own_cp (own_cp (List.replicate 1024 (0 : Int32)) LS (0 : Int32) oA nA) LS (0 : Int32) oB nB)) (LS := LS) (S := ((0 : Int32) + nB)) (o := oC) (n := nC) hL75 (own_up hO75.1 (by decide)) hJ138.2.2
          rw [← hO76.2, hT75] at hT76
          have hL76 := own_cpLen (LB := (own_cp (own_cp (List.replicate 1024 (0 : Int32)) LS (0 : Int32) oA nA) LS (0 : Int32) oB nB)) (LS := LS) (S := ((0 : Int32) + nB)) (o := oC) (n := nC) hL75 (own_up hO75.1 (by decide)) hJ138.2.2
          show own_Fin _ _ _ _ _ _ _ (T76.setTop (mkF m 239 #[.val (.int va), .val (.int vb), .val (.int vc), .val (.int vd), .val (.int ve), .val (.int vf), .val (.ref b1), .val (.int oA), .val (.int nA), .val (.int oB), .val (.int nB), .val (.int oC), .val (.int nC), .val (.int (1 : Int32)), .val (.int (1 : Int32)), .val (.int (1 : Int32)), .val (.ref b71), .unset] []))
          refine own_Fin.go (fun t k => XS.iload X76.here hx rfl (hb hby at_239) rfl k) ?_
          show own_Fin _ _ _ _ _ _ _ (T76.setTop (mkF m 241 #[.val (.int va), .val (.int vb), .val (.int vc), .val (.int vd), .val (.int ve), .val (.int vf), .val (.ref b1), .val (.int oA), .val (.int nA), .val (.int oB), .val (.int nB), .val (.int oC), .val (.int nC), .val (.int (1 : Int32)), .val (.int (1 : Int32)), .val (.int (1 : Int32)), .val (.ref b71), .unset] [(.int (1 : Int32))]))
          refine own_Fin.go (fun t k => XS.ifNo X76.here hx rfl (hb hby at_241) rfl (by decide) k) ?_
          show own_Fin _ _ _ _ _ _ _ (T76.setTop (mkF m 244 #[.val (.int va), .val (.int vb), .val (.int vc), .val (.int vd), .val (.int ve), .val (.int vf), .val (.ref b1), .val (.int oA), .val (.int nA), .val (.int oB), .val (.int nB), .val (.int oC), .val (.int nC), .val (.int (1 : Int32)), .val (.int (1 : Int32)), .val (.int (1 : Int32)), .val (.ref b71), .unset] []))
          refine own_Fin.go (fun t k => XS.iload X76.here hx rfl (hb hby at_244) rfl k) ?_
          show own_Fin _ _ _ _ _ _ _ (T76.setTop (mkF m 246 #[.val (.int va), .val (.int vb), .val (.int vc), .val (.int vd), .val (.int ve), .val (.int vf), .val (.ref b1), .val (.int oA), .val (.int nA), .val (.int oB), .val (.int nB), .val (.int oC), .val (.int nC), .val (.int (1 : Int32)), .val (.int (1 : Int32)), .val (.int (1 : Int32)), .val (.ref b71), .unset] [(.int (1 : Int32))]))
          refine own_Fin.go (fun t k => XS.ifYes X76.here hx rfl (pc0 := 246) (pc' := 261) rfl (hb hby at_246) rfl (by decide) (by decide) (by decide) k) ?_
          show own_Fin _ _ _ _ _ _ _ (T76.setTop (mkF m 261 #[.val (.int va), .val (.int vb), .val (.int vc), .val (.int vd), .val (.int ve), .val (.int vf), .val (.ref b1), .val (.int oA), .val (.int nA), .val (.int oB), .val (.int nB), .val (.int oC), .val (.int nC), .val (.int (1 : Int32)), .val (.int (1 : Int32)), .val (.int (1 : Int32)), .val (.ref b71), .unset] []))
          refine own_Fin.go (fun t k => XS.aload X76.here hx rfl (hb hby at_261) rfl rfl k) ?_
          show own_Fin _ _ _ _ _ _ _ (T76.setTop (mkF m 263 #[.val (.int va), .val (.int vb), .val (.int vc), .val (.int vd), .val (.int ve), .val (.int vf), .val (.ref b1), .val (.int oA), .val (.int nA), .val (.int oB), .val (.int nB), .val (.int oC), .val (.int nC), .val (.int (1 : Int32)), .val (.int (1 : Int32)), .val (.int (1 : Int32)), .val (.ref b71), .unset] [(.ref b1)]))
          refine own_Fin.go (fun t k => XS.iload X76.here hx rfl (hb hby at_263) rfl k) ?_
          show own_Fin _ _ _ _ _ _ _ (T76.setTop (mkF m 265 #[.val (.int va), .val (.int vb), .val (.int vc), .val (.int vd), .val (.int ve), .val (.int vf), .val (.ref b1), .val (.int oA), .val (.int nA), .val (.int oB), .val (.int nB), .val (.int oC), .val (.int nC), .val (.int (1 : Int32)), .val (.int (1 : Int32)), .val (.int (1 : Int32)), .val (.ref b71), .unset] [(.int oB), (.ref b1)]))
          refine own_Fin.go (fun t k => XS.iload X76.here hx rfl (hb hby at_265) rfl k) ?_
          show own_Fin _ _ _ _ _ _ _ (T76.setTop (mkF m 267 #[.val (.int va), .val (.int vb), .val (.int vc), .val (.int vd), .val (.int ve), .val (.int vf), .val (.ref b1), .val (.int oA), .val (.int nA), .val (.int oB), .val (.int nB), .val (.int oC), .val (.int nC), .val (.int (1 : Int32)), .val (.int (1 : Int32)), .val (.int (1 : Int32)), .val (.ref b71), .unset] [(.int nB), (.int oB), (.ref b1)]))
          obtain ⟨_, _, ⟨T77, L77, k77, n77⟩, -, X77, ⟨Lc77, hQ77, l77, y77, z77⟩, st77⟩ := Jvm.LawKit.callS X76 hx (y := (⟨"com/example/wardkeeper/wardkeeper/hl7/LinesAllAsciiPinLaw", "bad", "([BII)Z"⟩ : MethodName)) hown (mvT hZ (hw _ (List.mem_of_getElem? (i := 35) rfl))) (mvT hZ (hw _ (List.mem_of_getElem? (i := 36) rfl))) (mvT hZ (hw _ (List.mem_of_getElem? (i := 37) rfl))) (mvT hZ (hw _ (List.mem_of_getElem? (i := 38) rfl))) (by decide) (backOf (W := 0) (own_rm_bad l Z a0 hw [] b1 oB nB k1 LS T76.heap n0 Z76 VS_76) hZ (hw _ (List.mem_of_getElem? (i := 38) rfl)) (hw _ (List.mem_of_getElem? (i := 37) rfl)) (by decide) (by decide)) (g := (mkF m 267 #[.val (.int va), .val (.int vb), .val (.int vc), .val (.int vd), .val (.int ve), .val (.int vf), .val (.ref b1), .val (.int oA), .val (.int nA), .val (.int oB), .val (.int nB), .val (.int oC), .val (.int nC), .val (.int (1 : Int32)), .val (.int (1 : Int32)), .val (.int (1 : Int32)), .val (.ref b71), .unset] [(.int nB), (.int oB), (.ref b1)])) rfl (by rw [hml]; rfl) (argsL := [(.ref b1), (.int oB), (.int nB)]) (rest := []) (lenOf own_pd5 rfl) rfl (by show 2 * 0 + _ ≤ _; exact Nat.le_of_eq rfl) (hb hby at_267) (fun _ _ => ⟨rfl, rfl, (by decide : 4 + 0 ≤ _), (by decide : 1051 + 0 ≤ _)⟩)
          dsimp only [Pt.U, Pt.locs, Pt.cells, Pt.slots] at X77 l77 y77 z77 st77 hQ77
          subst l77 y77 z77
          obtain ⟨rfl, N77q, e77⟩ := hQ77
          refine own_Fin.go (fun t k => st77 t k) ?_
          have N77 := Fr.app N76 N77q
          show own_Fin _ _ _ _ _ _ _ (T77.setTop (mkF m 270 #[.val (.int va), .val (.int vb), .val (.int vc), .val (.int vd), .val (.int ve), .val (.int vf), .val (.ref b1), .val (.int oA), .val (.int nA), .val (.int oB), .val (.int nB), .val (.int oC), .val (.int nC), .val (.int (1 : Int32)), .val (.int (1 : Int32)), .val (.int (1 : Int32)), .val (.ref b71), .unset] [(.int (own_bad LS oB nB))]))
          by_cases hc270 : (own_bad LS oB nB) = (0 : Int32)
          · refine own_Fin.go (fun t k => XS.ifNo X77.here hx rfl (hb hby at_270) rfl (Jvm.Free.XT.i0_ne_f hc270) k) ?_
            show own_Fin _ _ _ _ _ _ _ (T77.setTop (mkF m 273 #[.val (.int va), .val (.int vb), .val (.int vc), .val (.int vd), .val (.int ve), .val (.int vf), .val (.ref b1), .val (.int oA), .val (.int nA), .val (.int oB), .val (.int nB), .val (.int oC), .val (.int nC), .val (.int (1 : Int32)), .val (.int (1 : Int32)), .val (.int (1 : Int32)), .val (.ref b71), .unset] []))
            refine own_Fin.go (fun t k => XS.iload X77.here hx rfl (hb hby at_273) rfl k) ?_
            show own_Fin _ _ _ _ _ _ _ (T77.setTop (mkF m 275 #[.val (.int va), .val (.int vb), .val (.int vc), .val (.int vd), .val (.int ve), .val (.int vf), .val (.ref b1), .val (.int oA), .val (.int nA), .val (.int oB), .val (.int nB), .val (.int oC), .val (.int nC), .val (.int (1 : Int32)), .val (.int (1 : Int32)), .val (.int (1 : Int32)), .val (.ref b71), .unset] [(.int (1 : Int32))]))
            refine own_Fin.go (fun t k => XS.ifNo X77.here hx rfl (hb hby at_275) rfl (by decide) k) ?_
            show own_Fin _ _ _ _ _ _ _ (T77.setTop (mkF m 278 #[.val (.int va), .val (.int vb), .val (.int vc), .val (.int vd), .val (.int ve), .val (.int vf), .val (.ref b1), .val (.int oA), .val (.int nA), .val (.int oB), .val (.int nB), .val (.int oC), .val (.int nC), .val (.int (1 : Int32)), .val (.int (1 : Int32)), .val (.int (1 : Int32)), .val (.ref b71), .unset] []))
            refine own_Fin.go (fun t k => XS.aload X77.here hx rfl (hb hby at_278) rfl rfl k) ?_
            show own_Fin _ _ _ _ _ _ _ (T77.setTop (mkF m 280 #[.val (.int va), .val (.int vb), .val (.int vc), .val (.int vd), .val (.int ve), .val (.int vf), .val (.ref b1), .val (.int oA), .val (.int nA), .val (.int oB), .val (.int nB), .val (.int oC), .val (.int nC), .val (.int (1 : Int32)), .val (.int (1 : Int32)), .val (.int (1 : Int32)), .val (.ref b71), .unset] [(.ref b1)]))
            refine own_Fin.go (fun t k => XS.iload X77.here hx rfl (hb hby at_280) rfl k) ?_
            show own_Fin _ _ _ _ _ _ _ (T77.setTop (mkF m 282 #[.val (.int va), .val (.int vb), .val (.int vc), .val (.int vd), .val (.int ve), .val (.int vf), .val (.ref b1), .val (.int oA), .val (.int nA), .val (.int oB), .val (.int nB), .val (.int oC), .val (.int nC), .val (.int (1 : Int32)), .val (.int (1 : Int32)), .val (.int (1 : Int32)), .val (.ref b71), .unset] [(.int oC), (.ref b1)]))
            refine own_Fin.go (fun t k => XS.iload X77.here hx rfl (hb hby at_282) rfl k) ?_
            show own_Fin _ _ _ _ _ _ _ (T77.setTop (mkF m 284 #[.val (.int va), .val (.int vb), .val (.int vc), .val (.int vd), .val (.int ve), .val (.int vf), .val (.ref b1), .val (.int oA), .val (.int nA), .val (.int oB), .val (.int nB), .val (.int oC), .val (.int nC), .val (.int (1 : Int32)), .val (.int (1 : Int32)), .val (.int (1 : Int32)), .val (.ref b71), .unset] [(.int nC), (.int oC), (.ref b1)]))
            obtain ⟨_, _, ⟨T78, L78, k78, n78⟩, -, X78, ⟨Lc78, hQ78, l78, y78, z78⟩, st78⟩ := Jvm.LawKit.callS X77 hx (y := (⟨"com/example/wardkeeper/wardkeeper/hl7/LinesAllAsciiPinLaw", "bad", "([BII)Z"⟩ : MethodName)) hown (mvT hZ (hw _ (List.mem_of_getElem? (i := 35) rfl))) (mvT hZ (hw _ (List.mem_of_getElem? (i := 36) rfl))) (mvT hZ (hw _ (List.mem_of_getElem? (i := 37) rfl))) (mvT hZ (hw _ (List.mem_of_getElem? (i := 38) rfl))) (by decide) (backOf (W := 0) (own_rm_bad l Z a0 hw [] b1 oC nC k1 LS T76.heap n0 Z76 VS_76) hZ (hw _ (List.mem_of_getElem? (i := 38) rfl)) (hw _ (List.mem_of_getElem? (i := 37) rfl)) (by decide) (by decide)) (g := (mkF m 284 #[.val (.int va), .val (.int vb), .val (.int vc), .val (.int vd), .val (.int ve), .val (.int vf), .val (.ref b1), .val (.int oA), .val (.int nA), .val (.int oB), .val (.int nB), .val (.int oC), .val (.int nC), .val (.int (1 : Int32)), .val (.int (1 : Int32)), .val (.int (1 : Int32)), .val (.ref b71), .unset] [(.int nC), (.int oC), (.ref b1)])) rfl (by rw [hml]; rfl) (argsL := [(.ref b1), (.int oC), (.int nC)]) (rest := []) (lenOf own_pd5 rfl) rfl (by show 2 * 0 + _ ≤ _; exact Nat.le_of_eq rfl) (hb hby at_284) (fun _ _ => ⟨rfl, e77, (by decide : 4 + 0 ≤ _), (by decide : 1051 + 0 ≤ _)⟩)
            dsimp only [Pt.U, Pt.locs, Pt.cells, Pt.slots] at X78 l78 y78 z78 st78 hQ78
            subst l78 y78 z78
            obtain ⟨rfl, N78q, e78⟩ := hQ78
            refine own_Fin.go (fun t k => st78 t k) ?_
            have N78 := Fr.app N77 N78q
            show own_Fin _ _ _ _ _ _ _ (T78.setTop (mkF m 287 #[.val (.int va), .val (.int vb), .val (.int vc), .val (.int vd), .val (.int ve), .val (.int vf), .val (.ref b1), .val (.int oA), .val (.int nA), .val (.int oB), .val (.int nB), .val (.int oC), .val (.int nC), .val (.int (1 : Int32)), .val (.int (1 : Int32)), .val (.int (1 : Int32)), .val (.ref b71), .unset] [(.int (own_bad LS oC nC))]))
            by_cases hc287 : (own_bad LS oC nC) = (0 : Int32)
            · refine own_Fin.go (fun t k => XS.ifNo X78.here hx rfl (hb hby at_287) rfl (Jvm.Free.XT.i0_ne_f hc287) k) ?_
              show own_Fin _ _ _ _ _ _ _ (T78.setTop (mkF m 290 #[.val (.int va), .val (.int vb), .val (.int vc), .val (.int vd), .val (.int ve), .val (.int vf), .val (.ref b1), .val (.int oA), .val (.int nA), .val (.int oB), .val (.int nB), .val (.int oC), .val (.int nC), .val (.int (1 : Int32)), .val (.int (1 : Int32)), .val (.int (1 : Int32)), .val (.ref b71), .unset] []))
              refine own_Fin.go (fun t k => XS.iconst X78.here hx rfl (hb hby at_290) k) ?_
              show own_Fin _ _ _ _ _ _ _ (T78.setTop (mkF m 291 #[.val (.int va), .val (.int vb), .val (.int vc), .val (.int vd), .val (.int ve), .val (.int vf), .val (.ref b1), .val (.int oA), .val (.int nA), .val (.int oB), .val (.int nB), .val (.int oC), .val (.int nC), .val (.int (1 : Int32)), .val (.int (1 : Int32)), .val (.int (1 : Int32)), .val (.ref b71), .unset] [(.int (1 : Int32))]))
              refine own_Fin.go (fun t k => XS.goto X78.here hx rfl (pc0 := 291) (pc' := 295) rfl (hb hby at_291) (by decide) (by decide) k) ?_
              show own_Fin _ _ _ _ _ _ _ (T78.setTop (mkF m 295 #[.val (.int va), .val (.int vb), .val (.int vc), .val (.int vd), .val (.int ve), .val (.int vf), .val (.ref b1), .val (.int oA), .val (.int nA), .val (.int oB), .val (.int nB), .val (.int oC), .val (.int nC), .val (.int (1 : Int32)), .val (.int (1 : Int32)), .val (.int (1 : Int32)), .val (.ref b71), .unset] [(.int (1 : Int32))]))
              refine own_Fin.go (fun t k => XS.istore X78.here hx rfl (hb hby at_295) rfl (l' := #[.val (.int va), .val (.int vb), .val (.int vc), .val (.int vd), .val (.int ve), .val (.int vf), .val (.ref b1), .val (.int oA), .val (.int nA), .val (.int oB), .val (.int nB), .val (.int oC), .val (.int nC), .val (.int (1 : Int32)), .val (.int (1 : Int32)), .val (.int (1 : Int32)), .val (.ref b71), .val (.int (1 : Int32))]) rfl k) ?_
              show own_Fin _ _ _ _ _ _ _ (T78.setTop (mkF m 297 #[.val (.int va), .val (.int vb), .val (.int vc), .val (.int vd), .val (.int ve), .val (.int vf), .val (.ref b1), .val (.int oA), .val (.int nA), .val (.int oB), .val (.int nB), .val (.int oC), .val (.int nC), .val (.int (1 : Int32)), .val (.int (1 : Int32)), .val (.int (1 : Int32)), .val (.ref b71), .val (.int (1 : Int32))] []))
              refine own_Fin.go (fun t k => XS.aload X78.here hx rfl (hb hby at_297) rfl rfl k) ?_
              show own_Fin _ _ _ _ _ _ _ (T78.setTop (mkF m 299 #[.val (.int va), .val (.int vb), .val (.int vc), .val (.int vd), .val (.int ve), .val (.int vf), .val (.ref b1), .val (.int oA), .val (.int nA), .val (.int oB), .val (.int nB), .val (.int oC), .val (.int nC), .val (.int (1 : Int32)), .val (.int (1 : Int32)), .val (.int (1 : Int32)), .val (.ref b71), .val (.int (1 : Int32))] [(.ref b71)]))
              obtain ⟨cq79, kq79, q79a, q79b, q79c⟩ := isOf hZ e78 c76_1
              obtain ⟨_, _, ⟨T79, L79, k79, n79⟩, -, X79, ⟨Lc79, hQ79, l79, y79, z79⟩, st79⟩ := X78.virtualBack hx (y := (⟨"com/example/wardkeeper/wardkeeper/hl7/Lines", "allAscii", "()Z"⟩ : MethodName)) (z := (⟨"com/example/wardkeeper/wardkeeper/hl7/Lines", "allAscii", "()Z"⟩ : MethodName)) hown (mvT hZ (hw _ (List.mem_of_getElem? (i := 42) rfl))) (mvT hZ (hw _ (List.mem_of_getElem? (i := 43) rfl))) (notFace_of_selects (args := #[]) (mvT hZ (hw _ (List.mem_of_getElem? (i := 45) rfl)))) (mvT hZ (hw _ (List.mem_of_getElem? (i := 45) rfl))) (mvT hZ (hw _ (List.mem_of_getElem? (i := 44) rfl))) (by decide) (backOf (W := 0) (own_rm_aa2 l Z a0 hw [] b71 ob72 kb72 (own_cp (own_cp (own_cp (List.replicate 1024 (0 : Int32)) LS (0 : Int32) oA nA) LS (0 : Int32) oB nB) LS ((0 : Int32) + nB) oC nC) oe72 ke72 ((0 : Int32) + nB) (((0 : Int32) + nB) + nC) (0 : Int32) T76.heap n0 Z76 c76_1 c76_2 c76_3 c76_4 c76_5 c76_6 (own_up hO76.1 (by decide)) hL76) hZ (hw _ (List.mem_of_getElem? (i := 46) rfl)) (hw _ (List.mem_of_getElem? (i := 3) rfl)) (by decide) (by decide)) q79a q79c (g := (mkF m 299 #[.val (.int va), .val (.int vb), .val (.int vc), .val (.int vd), .val (.int ve), .val (.int vf), .val (.ref b1), .val (.int oA), .val (.int nA), .val (.int oB), .val (.int nB), .val (.int oC), .val (.int nC), .val (.int (1 : Int32)), .val (.int (1 : Int32)), .val (.int (1 : Int32)), .val (.ref b71), .val (.int (1 : Int32))] [(.ref b71)])) rfl (by rw [hml]; rfl) (Steps.refl _) (argsL := []) (rest := []) (lenOf own_pd6 rfl) rfl (by show 2 * 0 + _ ≤ _; exact Nat.le_of_eq rfl) (hb hby at_299) (fun _ _ => ⟨rfl, e78, (by decide : 4 + 0 ≤ _), (by decide : 1051 + 0 ≤ _)⟩)
              dsimp only [Pt.U, Pt.locs, Pt.cells, Pt.slots] at X79 l79 y79 z79 st79 hQ79
              subst l79 y79 z79
              obtain ⟨rfl, N79q, e79⟩ := hQ79
              refine own_Fin.go (fun t k => st79.trans k) ?_
              have N79 := Fr.app N78 N79q
              show own_Fin _ _ _ _ _ _ _ (T79.setTop (mkF m 302 #[.val (.int va), .val (.int vb), .val (.int vc), .val (.int vd), .val (.int ve), .val (.int vf), .val (.ref b1), .val (.int oA), .val (.int nA), .val (.int oB), .val (.int nB), .val (.int oC), .val (.int nC), .val (.int (1 : Int32)), .val (.int (1 : Int32)), .val (.int (1 : Int32)), .val (.ref b71), .val (.int (1 : Int32))] [(.int (own_all (own_cp (own_cp (own_cp (List.replicate 1024 (0 : Int32)) LS (0 : Int32) oA nA) LS (0 : Int32) oB nB) LS ((0 : Int32) + nB) oC nC) (((0 : Int32) + nB) + nC)))]))
              refine own_Fin.go (fun t k => XS.iload X79.here hx rfl (hb hby at_302) rfl k) ?_
              show own_Fin _ _ _ _ _ _ _ (T79.setTop (mkF m 304 #[.val (.int va), .val (.int vb), .val (.int vc), .val (.int vd), .val (.int ve), .val (.int vf), .val (.ref b1), .val (.int oA), .val (.int nA), .val (.int oB), .val (.int nB), .val (.int oC), .val (.int nC), .val (.int (1 : Int32)), .val (.int (1 : Int32)), .val (.int (1 : Int32)), .val (.ref b71), .val (.int (1 : Int32))] [(.int (1 : Int32)), (.int (own_all (own_cp (own_cp (own_cp (List.replicate 1024 (0 : Int32)) LS (0 : Int32) oA nA) LS (0 : Int32) oB nB) LS ((0 : Int32) + nB) oC nC) (((0 : Int32) + nB) + nC)))]))
              have hc304 : (own_all (own_cp (own_cp (own_cp (List.replicate 1024 (0 : Int32)) LS (0 : Int32) oA nA) LS (0 : Int32) oB nB) LS ((0 : Int32) + nB) oC nC) (((0 : Int32) + nB) + nC)) = (1 : Int32) := own_all1 hT76 (own_app (own_app own_nil (own_good hJ138.2.1 hc270)) (own_good hJ138.2.2 hc287))
              refine own_Fin.go (fun t k => XS.icmpNo X79.here hx rfl (hb hby at_304) rfl (Jvm.Free.XT.ii_ne_f hc304) k) ?_
              show own_Fin _ _ _ _ _ _ _ (T79.setTop (mkF m 307 #[.val (.int va), .val (.int vb), .val (.int vc), .val (.int vd), .val (.int ve), .val (.int vf), .val (.ref b1), .val (.int oA), .val (.int nA), .val (.int oB), .val (.int nB), .val (.int oC), .val (.int nC), .val (.int (1 : Int32)), .val (.int (1 : Int32)), .val (.int (1 : Int32)), .val (.ref b71), .val (.int (1 : Int32))] []))
              refine own_Fin.go (fun t k => XS.iconst X79.here hx rfl (hb hby at_307) k) ?_
              show own_Fin _ _ _ _ _ _ _ (T79.setTop (mkF m 308 #[.val (.int va), .val (.int vb), .val (.int vc), .val (.int vd), .val (.int ve), .val (.int vf), .val (.ref b1), .val (.int oA), .val (.int nA), .val (.int oB), .val (.int nB), .val (.int oC), .val (.int nC), .val (.int (1 : Int32)), .val (.int (1 : Int32)), .val (.int (1 : Int32)), .val (.ref b71), .val (.int (1 : Int32))] [(.int (1 : Int32))]))
              refine own_Fin.go (fun t k => XS.goto X79.here hx rfl (pc0 := 308) (pc' := 312) rfl (hb hby at_308) (by decide) (by decide) k) ?_
              show own_Fin _ _ _ _ _ _ _ (T79.setTop (mkF m 312 #[.val (.int va), .val (.int vb), .val (.int vc), .val (.int vd), .val (.int ve), .val (.int vf), .val (.ref b1), .val (.int oA), .val (.int nA), .val (.int oB), .val (.int nB), .val (.int oC), .val (.int nC), .val (.int (1 : Int32)), .val (.int (1 : Int32)), .val (.int (1 : Int32)), .val (.ref b71), .val (.int (1 : Int32))] [(.int (1 : Int32))]))
              refine own_retN X79 hx (t := .boolean) (w := (1 : Int32)) Bd.returns (by simp) (hb hby at_312) Bd.notSynchronized rfl (by decide) (by decide) ?_
              rw [e79]
              exact ⟨rfl, N79⟩
            · refine own_Fin.go (fun t k => XS.ifYes X78.here hx rfl (pc0 := 287) (pc' := 294) rfl (hb hby at_287) rfl (Jvm.Free.XT.i0_ne_t hc287) (by decide) (by decide) k) ?_
              show own_Fin _ _ _ _ _ _ _ (T78.setTop (mkF m 294 #[.val (.int va), .val (.int vb), .val (.int vc), .val (.int vd), .val (.int ve), .val (.int vf), .val (.ref b1), .val (.int oA), .val (.int nA), .val (.int oB), .val (.int nB), .val (.int oC), .val (.int nC), .val (.int (1 : Int32)), .val (.int (1 : Int32)), .val (.int (1 : Int32)), .val (.ref b71), .unset] []))
              refine own_Fin.go (fun t k => XS.iconst X78.here hx rfl (hb hby at_294) k) ?_
              show own_Fin _ _ _ _ _ _ _ (T78.setTop (mkF m 295 #[.val (.int va), .val (.int vb), .val (.int vc), .val (.int vd), .val (.int ve), .val (.int vf), .val (.ref b1), .val (.int oA), .val (.int nA), .val (.int oB), .val (.int nB), .val (.int oC), .val (.int nC), .val (.int (1 : Int32)), .val (.int (1 : Int32)), .val (.int (1 : Int32)), .val (.ref b71), .unset] [(.int (0 : Int32))]))
              refine own_Fin.go (fun t k => XS.istore X78.here hx rfl (hb hby at_295) rfl (l' := #[.val (.int va), .val (.int vb), .val (.int vc), .val (.int vd), .val (.int ve), .val (.int vf), .val (.ref b1), .val (.int oA), .val (.int nA), .val (.int oB), .val (.int nB), .val (.int oC), .val (.int nC), .val (.int (1 : Int32)), .val (.int (1 : Int32)), .val (.int (1 : Int32)), .val (.ref b71), .val (.int (0 : Int32))]) rfl k) ?_
              show own_Fin _ _ _ _ _ _ _ (T78.setTop (mkF m 297 #[.val (.int va), .val (.int vb), .val (.int vc), .val (.int vd), .val (.int ve), .val (.int vf), .val (.ref b1), .val (.int oA), .val (.int nA), .val (.int oB), .val (.int nB), .val (.int oC), .val (.int nC), .val (.int (1 : Int32)), .val (.int (1 : Int32)), .val (.int (1 : Int32)), .val (.ref b71), .val (.int (0 : Int32))] []))
              refine own_Fin.go (fun t k => XS.aload X78.here hx rfl (hb hby at_297) rfl rfl k) ?_
              show own_Fin _ _ _ _ _ _ _ (T78.setTop (mkF m 299 #[.val (.int va), .val (.int vb), .val (.int vc), .val (.int vd), .val (.int ve), .val (.int vf), .val (.ref b1), .val (.int oA), .val (.int nA), .val (.int oB), .val (.int nB), .val (.int oC), .val (.int nC), .val (.int (1 : Int32)), .val (.int (1 : Int32)), .val (.int (1 : Int32)), .val (.ref b71), .val (.int (0 : Int32))] [(.ref b71)]))
              obtain ⟨cq80, kq80, q80a, q80b, q80c⟩ := isOf hZ e78 c76_1
              obtain ⟨_, _, ⟨T80, L80, k80, n80⟩, -, X80, ⟨Lc80, hQ80, l80, y80, z80⟩, st80⟩ := X78.virtualBack hx (y := (⟨"com/example/wardkeeper/wardkeeper/hl7/Lines", "allAscii", "()Z"⟩ : MethodName)) (z := (⟨"com/example/wardkeeper/wardkeeper/hl7/Lines", "allAscii", "()Z"⟩ : MethodName)) hown (mvT hZ (hw _ (List.mem_of_getElem? (i := 42) rfl))) (mvT hZ (hw _ (List.mem_of_getElem? (i := 43) rfl))) (notFace_of_selects (args := #[]) (mvT hZ (hw _ (List.mem_of_getElem? (i := 45) rfl)))) (mvT hZ (hw _ (List.mem_of_getElem? (i := 45) rfl))) (mvT hZ (hw _ (List.mem_of_getElem? (i := 44) rfl))) (by decide) (backOf (W := 0) (own_rm_aa2 l Z a0 hw [] b71 ob72 kb72 (own_cp (own_cp (own_cp (List.replicate 1024 (0 : Int32)) LS (0 : Int32) oA nA) LS (0 : Int32) oB nB) LS ((0 : Int32) + nB) oC nC) oe72 ke72 ((0 : Int32) + nB) (((0 : Int32) + nB) + nC) (0 : Int32) T76.heap n0 Z76 c76_1 c76_2 c76_3 c76_4 c76_5 c76_6 (own_up hO76.1 (by decide)) hL76) hZ (hw _ (List.mem_of_getElem? (i := 46) rfl)) (hw _ (List.mem_of_getElem? (i := 3) rfl)) (by decide) (by decide)) q80a q80c (g := (mkF m 299 #[.val (.int va), .val (.int vb), .val (.int vc), .val (.int vd), .val (.int ve), .val (.int vf), .val (.ref b1), .val (.int oA), .val (.int nA), .val (.int oB), .val (.int nB), .val (.int oC), .val (.int nC), .val (.int (1 : Int32)), .val (.int (1 : Int32)), .val (.int (1 : Int32)), .val (.ref b71), .val (.int (0 : Int32))] [(.ref b71)])) rfl (by rw [hml]; rfl) (Steps.refl _) (argsL := []) (rest := []) (lenOf own_pd6 rfl) rfl (by show 2 * 0 + _ ≤ _; exact Nat.le_of_eq rfl) (hb hby at_299) (fun _ _ => ⟨rfl, e78, (by decide : 4 + 0 ≤ _), (by decide : 1051 + 0 ≤ _)⟩)
              dsimp only [Pt.U, Pt.locs, Pt.cells, Pt.slots] at X80 l80 y80 z80 st80 hQ80
              subst l80 y80 z80
              obtain ⟨rfl, N80q, e80⟩ := hQ80
              refine own_Fin.go (fun t k => st80.trans k) ?_
              have N80 := Fr.app N78 N80q
              show own_Fin _ _ _ _ _ _ _ (T80.setTop (mkF m 302 #[.val (.int va), .val (.int vb), .val (.int vc), .val (.int vd), .val (.int ve), .val (.int vf), .val (.ref b1), .val (.int oA), .val (.int nA), .val (.int oB), .val (.int nB), .val (.int oC), .val (.int nC), .val (.int (1 : Int32)), .val (.int (1 : Int32)), .val (.int (1 : Int32)), .val (.ref b71), .val (.int (0 : Int32))] [(.int (own_all (own_cp (own_cp (own_cp (List.replicate 1024 (0 : Int32)) LS (0 : Int32) oA nA) LS (0 : Int32) oB nB) LS ((0 : Int32) + nB) oC nC) (((0 : Int32) + nB) + nC)))]))
              refine own_Fin.go (fun t k => XS.iload X80.here hx rfl (hb hby at_302) rfl k) ?_
              show own_Fin _ _ _ _ _ _ _ (T80.setTop (mkF m 304 #[.val (.int va), .val (.int vb), .val (.int vc), .val (.int vd), .val (.int ve), .val (.int vf), .val (.ref b1), .val (.int oA), .val (.int nA), .val (.int oB), .val (.int nB), .val (.int oC), .val (.int nC), .val (.int (1 : Int32)), .val (.int (1 : Int32)), .val (.int (1 : Int32)), .val (.ref b71), .val (.int (0 : Int32))] [(.int (0 : Int32)), (.int (own_all (own_cp (own_cp (own_cp (List.replicate 1024 (0 : Int32)) LS (0 : Int32) oA nA) LS (0 : Int32) oB nB) LS ((0 : Int32) + nB) oC nC) (((0 : Int32) + nB) + nC)))]))
              have hc304 : (own_all (own_cp (own_cp (own_cp (List.replicate 1024 (0 : Int32)) LS (0 : Int32) oA nA) LS (0 : Int32) oB nB) LS ((0 : Int32) + nB) oC nC) (((0 : Int32) + nB) + nC)) = (0 : Int32) := own_all0 hT76 (own_inr (own_evil hJ138.2.2 hc287))
              refine own_Fin.go (fun t k => XS.icmpNo X80.here hx rfl (hb hby at_304) rfl (Jvm.Free.XT.ii_ne_f hc304) k) ?_
              show own_Fin _ _ _ _ _ _ _ (T80.setTop (mkF m 307 #[.val (.int va), .val (.int vb), .val (.int vc), .val (.int vd), .val (.int ve), .val (.int vf), .val (.ref b1), .val (.int oA), .val (.int nA), .val (.int oB), .val (.int nB), .val (.int oC), .val (.int nC), .val (.int (1 : Int32)), .val (.int (1 : Int32)), .val (.int (1 : Int32)), .val (.ref b71), .val (.int (0 : Int32))] []))
              refine own_Fin.go (fun t k => XS.iconst X80.here hx rfl (hb hby at_307) k) ?_
              show own_Fin _ _ _ _ _ _ _ (T80.setTop (mkF m 308 #[.val (.int va), .val (.int vb), .val (.int vc), .val (.int vd), .val (.int ve), .val (.int vf), .val (.ref b1), .val (.int oA), .val (.int nA), .val (.int oB), .val (.int nB), .val (.int oC), .val (.int nC), .val (.int (1 : Int32)), .val (.int (1 : Int32)), .val (.int (1 : Int32)), .val (.ref b71), .val (.int (0 : Int32))] [(.int (1 : Int32))]))
              refine own_Fin.go (fun t k => XS.goto X80.here hx rfl (pc0 := 308) (pc' := 312) rfl (hb hby at_308) (by decide) (by decide) k) ?_
              show own_Fin _ _ _ _ _ _ _ (T80.setTop (mkF m 312 #[.val (.int va), .val (.int vb), .val (.int vc), .val (.int vd), .val (.int ve), .val (.int vf), .val (.ref b1), .val (.int oA), .val (.int nA), .val (.int oB), .val (.int nB), .val (.int oC), .val (.int nC), .val (.int (1 : Int32)), .val (.int (1 : Int32)), .val (.int (1 : Int32)), .val (.ref b71), .val (.int (0 : Int32))] [(.int (1 : Int32))]))
              refine own_retN X80 hx (t := .boolean) (w := (1 : Int32)) Bd.returns (by simp) (hb hby at_312) Bd.notSynchronized rfl (by decide) (by decide) ?_
              rw [e80]
              exact ⟨rfl, N80⟩
          · refine own_Fin.go (fun t k => XS.ifYes X77.here hx rfl (pc0 := 270) (pc' := 294) rfl (hb hby at_270) rfl (Jvm.Free.XT.i0_ne_t hc270) (by decide) (by decide) k) ?_
            show own_Fin _ _ _ _ _ _ _ (T77.setTop (mkF m 294 #[.val (.int va), .val (.int vb), .val (.int vc), .val (.int vd), .val (.int ve), .val (.int vf), .val (.ref b1), .val (.int oA), .val (.int nA), .val (.int oB), .val (.int nB), .val (.int oC), .val (.int nC), .val (.int (1 : Int32)), .val (.int (1 : Int32)), .val (.int (1 : Int32)), .val (.ref b71), .unset] []))
            refine own_Fin.go (fun t k => XS.iconst X77.here hx rfl (hb hby at_294) k) ?_
            show own_Fin _ _ _ _ _ _ _ (T77.setTop (mkF m 295 #[.val (.int va), .val (.int vb), .val (.int vc), .val (.int vd), .val (.int ve), .val (.int vf), .val (.ref b1), .val (.int oA), .val (.int nA), .val (.int oB), .val (.int nB), .val (.int oC), .val (.int nC), .val (.int (1 : Int32)), .val (.int (1 : Int32)), .val (.int (1 : Int32)), .val (.ref b71), .unset] [(.int (0 : Int32))]))
            refine own_Fin.go (fun t k => XS.istore X77.here hx rfl (hb hby at_295) rfl (l' := #[.val (.int va), .val (.int vb), .val (.int vc), .val (.int vd), .val (.int ve), .val (.int vf), .val (.ref b1), .val (.int oA), .val (.int nA), .val (.int oB), .val (.int nB), .val (.int oC), .val (.int nC), .val (.int (1 : Int32)), .val (.int (1 : Int32)), .val (.int (1 : Int32)), .val (.ref b71), .val (.int (0 : Int32))]) rfl k) ?_
            show own_Fin _ _ _ _ _ _ _ (T77.setTop (mkF m 297 #[.val (.int va), .val (.int vb), .val (.int vc), .val (.int vd), .val (.int ve), .val (.int vf), .val (.ref b1), .val (.int oA), .val (.int nA), .val (.int oB), .val (.int nB), .val (.int oC), .val (.int nC), .val (.int (1 : Int32)), .val (.int (1 : Int32)), .val (.int (1 : Int32)), .val (.ref b71), .val (.int (0 : Int32))] []))
            refine own_Fin.go (fun t k => XS.aload X77.here hx rfl (hb hby at_297) rfl rfl k) ?_
            show own_Fin _ _ _ _ _ _ _ (T77.setTop (mkF m 299 #[.val (.int va), .val (.int vb), .val (.int vc), .val (.int vd), .val (.int ve), .val (.int vf), .val (.ref b1), .val (.int oA), .val (.int nA), .val (.int oB), .val (.int nB), .val (.int oC), .val (.int nC), .val (.int (1 : Int32)), .val (.int (1 : Int32)), .val (.int (1 : Int32)), .val (.ref b71), .val (.int (0 : Int32))] [(.ref b71)]))
            obtain ⟨cq81, kq81, q81a, q81b, q81c⟩ := isOf hZ e77 c76_1
            obtain ⟨_, _, ⟨T81, L81, k81, n81⟩, -, X81, ⟨Lc81, hQ81, l81, y81, z81⟩, st81⟩ := X77.virtualBack hx (y := (⟨"com/example/wardkeeper/wardkeeper/hl7/Lines", "allAscii", "()Z"⟩ : MethodName)) (z := (⟨"com/example/wardkeeper/wardkeeper/hl7/Lines", "allAscii", "()Z"⟩ : MethodName)) hown (mvT hZ (hw _ (List.mem_of_getElem? (i := 42) rfl))) (mvT hZ (hw _ (List.mem_of_getElem? (i := 43) rfl))) (notFace_of_selects (args := #[]) (mvT hZ (hw _ (List.mem_of_getElem? (i := 45) rfl)))) (mvT hZ (hw _ (List.mem_of_getElem? (i := 45) rfl))) (mvT hZ (hw _ (List.mem_of_getElem? (i := 44) rfl))) (by decide) (backOf (W := 0) (own_rm_aa2 l Z a0 hw [] b71 ob72 kb72 (own_cp (own_cp (own_cp (List.replicate 1024 (0 : Int32)) LS (0 : Int32) oA nA) LS (0 : Int32) oB nB) LS ((0 : Int32) + nB) oC nC) oe72 ke72 ((0 : Int32) + nB) (((0 : Int32) + nB) + nC) (0 : Int32) T76.heap n0 Z76 c76_1 c76_2 c76_3 c76_4 c76_5 c76_6 (own_up hO76.1 (by decide)) hL76) hZ (hw _ (List.mem_of_getElem? (i := 46) rfl)) (hw _ (List.mem_of_getElem? (i := 3) rfl)) (by decide) (by decide)) q81a q81c (g := (mkF m 299 #[.val (.int va), .val (.int vb), .val (.int vc), .val (.int vd), .val (.int ve), .val (.int vf), .val (.ref b1), .val (.int oA), .val (.int nA), .val (.int oB), .val (.int nB), .val (.int oC), .val (.int nC), .val (.int (1 : Int32)), .val (.int (1 : Int32)), .val (.int (1 : Int32)), .val (.ref b71), .val (.int (0 : Int32))] [(.ref b71)])) rfl (by rw [hml]; rfl) (Steps.refl _) (argsL := []) (rest := []) (lenOf own_pd6 rfl) rfl (by show 2 * 0 + _ ≤ _; exact Nat.le_of_eq rfl) (hb hby at_299) (fun _ _ => ⟨rfl, e77, (by decide : 4 + 0 ≤ _), (by decide : 1051 + 0 ≤ _)⟩)
            dsimp only [Pt.U, Pt.locs, Pt.cells, Pt.slots] at X81 l81 y81 z81 st81 hQ81
            subst l81 y81 z81
            obtain ⟨rfl, N81q, e81⟩ := hQ81
            refine own_Fin.go (fun t k => st81.trans k) ?_
            have N81 := Fr.app N77 N81q
            show own_Fin _ _ _ _ _ _ _ (T81.setTop (mkF m 302 #[.val (.int va), .val (.int vb), .val (.int vc), .val (.int vd), .val (.int ve), .val (.int vf), .val (.ref b1), .val (.int oA), .val (.int nA), .val (.int oB), .val (.int nB), .val (.int oC), .val (.int nC), .val (.int (1 : Int32)), .val (.int (1 : Int32)), .val (.int (1 : Int32)), .val (.ref b71), .val (.int (0 : Int32))] [(.int (own_all (own_cp (own_cp (own_cp (List.replicate 1024 (0 : Int32)) LS (0 : Int32) oA nA) LS (0 : Int32) oB nB) LS ((0 : Int32) + nB) oC nC) (((0 : Int32) + nB) + nC)))]))
            refine own_Fin.go (fun t k => XS.iload X81.here hx rfl (hb hby at_302) rfl k) ?_
            show own_Fin _ _ _ _ _ _ _ (T81.setTop (mkF m 304 #[.val (.int va), .val (.int vb), .val (.int vc), .val (.int vd), .val (.int ve), .val (.int vf), .val (.ref b1), .val (.int oA), .val (.int nA), .val (.int oB), .val (.int nB), .val (.int oC), .val (.int nC), .val (.int (1 : Int32)), .val (.int (1 : Int32)), .val (.int (1 : Int32)), .val (.ref b71), .val (.int (0 : Int32))] [(.int (0 : Int32)), (.int (own_all (own_cp (own_cp (own_cp (List.replicate 1024 (0 : Int32)) LS (0 : Int32) oA nA) LS (0 : Int32) oB nB) LS ((0 : Int32) + nB) oC nC) (((0 : Int32) + nB) + nC)))]))
            have hc304 : (own_all (own_cp (own_cp (own_cp (List.replicate 1024 (0 : Int32)) LS (0 : Int32) oA nA) LS (0 : Int32) oB nB) LS ((0 : Int32) + nB) oC nC) (((0 : Int32) + nB) + nC)) = (0 : Int32) := own_all0 hT76 (own_inl (own_inr (own_evil hJ138.2.1 hc270)))
            refine own_Fin.go (fun t k => XS.icmpNo X81.here hx rfl (hb hby at_304) rfl (Jvm.Free.XT.ii_ne_f hc304) k) ?_
            show own_Fin _ _ _ _ _ _ _ (T81.setTop (mkF m 307 #[.val (.int va), .val (.int vb), .val (.int vc), .val (.int vd), .val (.int ve), .val (.int vf), .val (.ref b1), .val (.int oA), .val (.int nA), .val (.int oB), .val (.int nB), .val (.int oC), .val (.int nC), .val (.int (1 : Int32)), .val (.int (1 : Int32)), .val (.int (1 : Int32)), .val (.ref b71), .val (.int (0 : Int32))] []))
            refine own_Fin.go (fun t k => XS.iconst X81.here hx rfl (hb hby at_307) k) ?_
            show own_Fin _ _ _ _ _ _ _ (T81.setTop (mkF m 308 #[.val (.int va), .val (.int vb), .val (.int vc), .val (.int vd), .val (.int ve), .val (.int vf), .val (.ref b1), .val (.int oA), .val (.int nA), .val (.int oB), .val (.int nB), .val (.int oC), .val (.int nC), .val (.int (1 : Int32)), .val (.int (1 : Int32)), .val (.int (1 : Int32)), .val (.ref b71), .val (.int (0 : Int32))] [(.int (1 : Int32))]))
            refine own_Fin.go (fun t k => XS.goto X81.here hx rfl (pc0 := 308) (pc' := 312) rfl (hb hby at_308) (by decide) (by decide) k) ?_
            show own_Fin _ _ _ _ _ _ _ (T81.setTop (mkF m 312 #[.val (.int va), .val (.int vb), .val (.int vc), .val (.int vd), .val (.int ve), .val (.int vf), .val (.ref b1), .val (.int oA), .val (.int nA), .val (.int oB), .val (.int nB), .val (.int oC), .val (.int nC), .val (.int (1 : Int32)), .val (.int (1 : Int32)), .val (.int (1 : Int32)), .val (.ref b71), .val (.int (0 : Int32))] [(.int (1 : Int32))]))
            refine own_retN X81 hx (t := .boolean) (w := (1 : Int32)) Bd.returns (by simp) (hb hby at_312) Bd.notSynchronized rfl (by decide) (by decide) ?_
            rw [e81]
            exact ⟨rfl, N81⟩
  refine own_Fin.go (fun t k => XS.iloadN X9.here hx rfl (hb hby at_74) rfl k) ?_
  show own_Fin _ _ _ _ _ _ _ (T9.setTop (mkF m 75 #[.val (.int va), .val (.int vb), .val (.int vc), .val (.int vd), .val (.int ve), .val (.int vf), .val (.ref b1), .unset, .unset, .unset, .unset, .unset, .unset, .unset, .unset, .unset, .unset, .unset] [(.int vd)]))
  refine own_Fin.go (fun t k => XS.bipush X9.here hx rfl (hb hby at_75) k) ?_
  show own_Fin _ _ _ _ _ _ _ (T9.setTop (mkF m 77 #[.val (.int va), .val (.int vb), .val (.int vc), .val (.int vd), .val (.int ve), .val (.int vf), .val (.ref b1), .unset, .unset, .unset, .unset, .unset, .unset, .unset, .unset, .unset, .unset, .unset] [(.int (7 : Int32)), (.int vd)]))
  refine own_Fin.go (fun t k => XS.iand X9.here hx rfl (hb hby at_77) rfl k) ?_
  show own_Fin _ _ _ _ _ _ _ (T9.setTop (mkF m 78 #[.val (.int va), .val (.int vb), .val (.int vc), .val (.int vd), .val (.int ve), .val (.int vf), .val (.ref b1), .unset, .unset, .unset, .unset, .unset, .unset, .unset, .unset, .unset, .unset, .unset] [(.int (vd &&& (7 : Int32)))]))
  refine own_Fin.go (fun t k => XS.istore X9.here hx rfl (hb hby at_78) rfl (l' := #[.val (.int va), .val (.int vb), .val (.int vc), .val (.int vd), .val (.int ve), .val (.int vf), .val (.ref b1), .val (.int (vd &&& (7 : Int32))), .unset, .unset, .unset, .unset, .unset, .unset, .unset, .unset, .unset, .unset]) rfl k) ?_
  show own_Fin _ _ _ _ _ _ _ (T9.setTop (mkF m 80 #[.val (.int va), .val (.int vb), .val (.int vc), .val (.int vd), .val (.int ve), .val (.int vf), .val (.ref b1), .val (.int (vd &&& (7 : Int32))), .unset, .unset, .unset, .unset, .unset, .unset, .unset, .unset, .unset, .unset] []))
  refine own_Fin.go (fun t k => XS.iloadN X9.here hx rfl (hb hby at_80) rfl k) ?_
  show own_Fin _ _ _ _ _ _ _ (T9.setTop (mkF m 81 #[.val (.int va), .val (.int vb), .val (.int vc), .val (.int vd), .val (.int ve), .val (.int vf), .val (.ref b1), .val (.int (vd &&& (7 : Int32))), .unset, .unset, .unset, .unset, .unset, .unset, .unset, .unset, .unset, .unset] [(.int vd)]))
  refine own_Fin.go (fun t k => XS.iconst X9.here hx rfl (hb hby at_81) k) ?_
  show own_Fin _ _ _ _ _ _ _ (T9.setTop (mkF m 82 #[.val (.int va), .val (.int vb), .val (.int vc), .val (.int vd), .val (.int ve), .val (.int vf), .val (.ref b1), .val (.int (vd &&& (7 : Int32))), .unset, .unset, .unset, .unset, .unset, .unset, .unset, .unset, .unset, .unset] [(.int (3 : Int32)), (.int vd)]))
  refine own_Fin.go (fun t k => XS.iushr X9.here hx rfl (hb hby at_82) rfl k) ?_
  show own_Fin _ _ _ _ _ _ _ (T9.setTop (mkF m 83 #[.val (.int va), .val (.int vb), .val (.int vc), .val (.int vd), .val (.int ve), .val (.int vf), .val (.ref b1), .val (.int (vd &&& (7 : Int32))), .unset, .unset, .unset, .unset, .unset, .unset, .unset, .unset, .unset, .unset] [(.int ((vd.toUInt32 >>> ((3 : Int32) &&& 31).toUInt32).toInt32))]))
  refine own_Fin.go (fun t k => XS.bipush X9.here hx rfl (hb hby at_83) k) ?_
  show own_Fin _ _ _ _ _ _ _ (T9.setTop (mkF m 85 #[.val (.int va), .val (.int vb), .val (.int vc), .val (.int vd), .val (.int ve), .val (.int vf), .val (.ref b1), .val (.int (vd &&& (7 : Int32))), .unset, .unset, .unset, .unset, .unset, .unset, .unset, .unset, .unset, .unset] [(.int (15 : Int32)), (.int ((vd.toUInt32 >>> ((3 : Int32) &&& 31).toUInt32).toInt32))]))
  refine own_Fin.go (fun t k => XS.iand X9.here hx rfl (hb hby at_85) rfl k) ?_
  show own_Fin _ _ _ _ _ _ _ (T9.setTop (mkF m 86 #[.val (.int va), .val (.int vb), .val (.int vc), .val (.int vd), .val (.int ve), .val (.int vf), .val (.ref b1), .val (.int (vd &&& (7 : Int32))), .unset, .unset, .unset, .unset, .unset, .unset, .unset, .unset, .unset, .unset] [(.int (((vd.toUInt32 >>> ((3 : Int32) &&& 31).toUInt32).toInt32) &&& (15 : Int32)))]))
  refine own_Fin.go (fun t k => XS.bipush X9.here hx rfl (hb hby at_86) k) ?_
  show own_Fin _ _ _ _ _ _ _ (T9.setTop (mkF m 88 #[.val (.int va), .val (.int vb), .val (.int vc), .val (.int vd), .val (.int ve), .val (.int vf), .val (.ref b1), .val (.int (vd &&& (7 : Int32))), .unset, .unset, .unset, .unset, .unset, .unset, .unset, .unset, .unset, .unset] [(.int (9 : Int32)), (.int (((vd.toUInt32 >>> ((3 : Int32) &&& 31).toUInt32).toInt32) &&& (15 : Int32)))]))
  refine own_Fin.go (fun t k => XS.iload X9.here hx rfl (hb hby at_88) rfl k) ?_
  show own_Fin _ _ _ _ _ _ _ (T9.setTop (mkF m 90 #[.val (.int va), .val (.int vb), .val (.int vc), .val (.int vd), .val (.int ve), .val (.int vf), .val (.ref b1), .val (.int (vd &&& (7 : Int32))), .unset, .unset, .unset, .unset, .unset, .unset, .unset, .unset, .unset, .unset] [(.int (vd &&& (7 : Int32))), (.int (9 : Int32)), (.int (((vd.toUInt32 >>> ((3 : Int32) &&& 31).toUInt32).toInt32) &&& (15 : Int32)))]))
  refine own_Fin.go (fun t k => XS.isub X9.here hx rfl (hb hby at_90) rfl k) ?_
  show own_Fin _ _ _ _ _ _ _ (T9.setTop (mkF m 91 #[.val (.int va), .val (.int vb), .val (.int vc), .val (.int vd), .val (.int ve), .val (.int vf), .val (.ref b1), .val (.int (vd &&& (7 : Int32))), .unset, .unset, .unset, .unset, .unset, .unset, .unset, .unset, .unset, .unset] [(.int ((9 : Int32) - (vd &&& (7 : Int32)))), (.int (((vd.toUInt32 >>> ((3 : Int32) &&& 31).toUInt32).toInt32) &&& (15 : Int32)))]))
  refine own_Fin.go (fun t k => iremM X9 hx rfl (hb hby at_91) rfl (own_nz vd) k) ?_
  show own_Fin _ _ _ _ _ _ _ (T9.setTop (mkF m 92 #[.val (.int va), .val (.int vb), .val (.int vc), .val (.int vd), .val (.int ve), .val (.int vf), .val (.ref b1), .val (.int (vd &&& (7 : Int32))), .unset, .unset, .unset, .unset, .unset, .unset, .unset, .unset, .unset, .unset] [(.int ((((vd.toUInt32 >>> ((3 : Int32) &&& 31).toUInt32).toInt32) &&& (15 : Int32)) % ((9 : Int32) - (vd &&& (7 : Int32)))))]))
  refine own_Fin.go (fun t k => XS.istore X9.here hx rfl (hb hby at_92) rfl (l' := #[.val (.int va), .val (.int vb), .val (.int vc), .val (.int vd), .val (.int ve), .val (.int vf), .val (.ref b1), .val (.int (vd &&& (7 : Int32))), .val (.int ((((vd.toUInt32 >>> ((3 : Int32) &&& 31).toUInt32).toInt32) &&& (15 : Int32)) % ((9 : Int32) - (vd &&& (7 : Int32))))), .unset, .unset, .unset, .unset, .unset, .unset, .unset, .unset, .unset]) rfl k) ?_
  show own_Fin _ _ _ _ _ _ _ (T9.setTop (mkF m 94 #[.val (.int va), .val (.int vb), .val (.int vc), .val (.int vd), .val (.int ve), .val (.int vf), .val (.ref b1), .val (.int (vd &&& (7 : Int32))), .val (.int ((((vd.toUInt32 >>> ((3 : Int32) &&& 31).toUInt32).toInt32) &&& (15 : Int32)) % ((9 : Int32) - (vd &&& (7 : Int32))))), .unset, .unset, .unset, .unset, .unset, .unset, .unset, .unset, .unset] []))
  refine own_Fin.go (fun t k => XS.iload X9.here hx rfl (hb hby at_94) rfl k) ?_
  show own_Fin _ _ _ _ _ _ _ (T9.setTop (mkF m 96 #[.val (.int va), .val (.int vb), .val (.int vc), .val (.int vd), .val (.int ve), .val (.int vf), .val (.ref b1), .val (.int (vd &&& (7 : Int32))), .val (.int ((((vd.toUInt32 >>> ((3 : Int32) &&& 31).toUInt32).toInt32) &&& (15 : Int32)) % ((9 : Int32) - (vd &&& (7 : Int32))))), .unset, .unset, .unset, .unset, .unset, .unset, .unset, .unset, .unset] [(.int ve)]))
  refine own_Fin.go (fun t k => XS.bipush X9.here hx rfl (hb hby at_96) k) ?_
  show own_Fin _ _ _ _ _ _ _ (T9.setTop (mkF m 98 #[.val (.int va), .val (.int vb), .val (.int vc), .val (.int vd), .val (.int ve), .val (.int vf), .val (.ref b1), .val (.int (vd &&& (7 : Int32))), .val (.int ((((vd.toUInt32 >>> ((3 : Int32) &&& 31).toUInt32).toInt32) &&& (15 : Int32)) % ((9 : Int32) - (vd &&& (7 : Int32))))), .unset, .unset, .unset, .unset, .unset, .unset, .unset, .unset, .unset] [(.int (7 : Int32)), (.int ve)]))
  refine own_Fin.go (fun t k => XS.iand X9.here hx rfl (hb hby at_98) rfl k) ?_
  show own_Fin _ _ _ _ _ _ _ (T9.setTop (mkF m 99 #[.val (.int va), .val (.int vb), .val (.int vc), .val (.int vd), .val (.int ve), .val (.int vf), .val (.ref b1), .val (.int (vd &&& (7 : Int32))), .val (.int ((((vd.toUInt32 >>> ((3 : Int32) &&& 31).toUInt32).toInt32) &&& (15 : Int32)) % ((9 : Int32) - (vd &&& (7 : Int32))))), .unset, .unset, .unset, .unset, .unset, .unset, .unset, .unset, .unset] [(.int (ve &&& (7 : Int32)))]))
  refine own_Fin.go (fun t k => XS.istore X9.here hx rfl (hb hby at_99) rfl (l' := #[.val (.int va), .val (.int vb), .val (.int vc), .val (.int vd), .val (.int ve), .val (.int vf), .val (.ref b1), .val (.int (vd &&& (7 : Int32))), .val (.int ((((vd.toUInt32 >>> ((3 : Int32) &&& 31).toUInt32).toInt32) &&& (15 : Int32)) % ((9 : Int32) - (vd &&& (7 : Int32))))), .val (.int (ve &&& (7 : Int32))), .unset, .unset, .unset, .unset, .unset, .unset, .unset, .unset]) rfl k) ?_
  show own_Fin _ _ _ _ _ _ _ (T9.setTop (mkF m 101 #[.val (.int va), .val (.int vb), .val (.int vc), .val (.int vd), .val (.int ve), .val (.int vf), .val (.ref b1), .val (.int (vd &&& (7 : Int32))), .val (.int ((((vd.toUInt32 >>> ((3 : Int32) &&& 31).toUInt32).toInt32) &&& (15 : Int32)) % ((9 : Int32) - (vd &&& (7 : Int32))))), .val (.int (ve &&& (7 : Int32))), .unset, .unset, .unset, .unset, .unset, .unset, .unset, .unset] []))
  refine own_Fin.go (fun t k => XS.iload X9.here hx rfl (hb hby at_101) rfl k) ?_
  show own_Fin _ _ _ _ _ _ _ (T9.setTop (mkF m 103 #[.val (.int va), .val (.int vb), .val (.int vc), .val (.int vd), .val (.int ve), .val (.int vf), .val (.ref b1), .val (.int (vd &&& (7 : Int32))), .val (.int ((((vd.toUInt32 >>> ((3 : Int32) &&& 31).toUInt32).toInt32) &&& (15 : Int32)) % ((9 : Int32) - (vd &&& (7 : Int32))))), .val (.int (ve &&& (7 : Int32))), .unset, .unset, .unset, .unset, .unset, .unset, .unset, .unset] [(.int ve)]))
  refine own_Fin.go (fun t k => XS.iconst X9.here hx rfl (hb hby at_103) k) ?_
  show own_Fin _ _ _ _ _ _ _ (T9.setTop (mkF m 104 #[.val (.int va), .val (.int vb), .val (.int vc), .val (.int vd), .val (.int ve), .val (.int vf), .val (.ref b1), .val (.int (vd &&& (7 : Int32))), .val (.int ((((vd.toUInt32 >>> ((3 : Int32) &&& 31).toUInt32).toInt32) &&& (15 : Int32)) % ((9 : Int32) - (vd &&& (7 : Int32))))), .val (.int (ve &&& (7 : Int32))), .unset, .unset, .unset, .unset, .unset, .unset, .unset, .unset] [(.int (3 : Int32)), (.int ve)]))
  refine own_Fin.go (fun t k => XS.iushr X9.here hx rfl (hb hby at_104) rfl k) ?_
  show own_Fin _ _ _ _ _ _ _ (T9.setTop (mkF m 105 #[.val (.int va), .val (.int vb), .val (.int vc), .val (.int vd), .val (.int ve), .val (.int vf), .val (.ref b1), .val (.int (vd &&& (7 : Int32))), .val (.int ((((vd.toUInt32 >>> ((3 : Int32) &&& 31).toUInt32).toInt32) &&& (15 : Int32)) % ((9 : Int32) - (vd &&& (7 : Int32))))), .val (.int (ve &&& (7 : Int32))), .unset, .unset, .unset, .unset, .unset, .unset, .unset, .unset] [(.int ((ve.toUInt32 >>> ((3 : Int32) &&& 31).toUInt32).toInt32))]))
  refine own_Fin.go (fun t k => XS.bipush X9.here hx rfl (hb hby at_105) k) ?_
  show own_Fin _ _ _ _ _ _ _ (T9.setTop (mkF m 107 #[.val (.int va), .val (.int vb), .val (.int vc), .val (.int vd), .val (.int ve), .val (.int vf), .val (.ref b1), .val (.int (vd &&& (7 : Int32))), .val (.int ((((vd.toUInt32 >>> ((3 : Int32) &&& 31).toUInt32).toInt32) &&& (15 : Int32)) % ((9 : Int32) - (vd &&& (7 : Int32))))), .val (.int (ve &&& (7 : Int32))), .unset, .unset, .unset, .unset, .unset, .unset, .unset, .unset] [(.int (15 : Int32)), (.int ((ve.toUInt32 >>> ((3 : Int32) &&& 31).toUInt32).toInt32))]))
  refine own_Fin.go (fun t k => XS.iand X9.here hx rfl (hb hby at_107) rfl k) ?_
  show own_Fin _ _ _ _ _ _ _ (T9.setTop (mkF m 108 #[.val (.int va), .val (.int vb), .val (.int vc), .val (.int vd), .val (.int ve), .val (.int vf), .val (.ref b1), .val (.int (vd &&& (7 : Int32))), .val (.int ((((vd.toUInt32 >>> ((3 : Int32) &&& 31).toUInt32).toInt32) &&& (15 : Int32)) % ((9 : Int32) - (vd &&& (7 : Int32))))), .val (.int (ve &&& (7 : Int32))), .unset, .unset, .unset, .unset, .unset, .unset, .unset, .unset] [(.int (((ve.toUInt32 >>> ((3 : Int32) &&& 31).toUInt32).toInt32) &&& (15 : Int32)))]))
  refine own_Fin.go (fun t k => XS.bipush X9.here hx rfl (hb hby at_108) k) ?_
  show own_Fin _ _ _ _ _ _ _ (T9.setTop (mkF m 110 #[.val (.int va), .val (.int vb), .val (.int vc), .val (.int vd), .val (.int ve), .val (.int vf), .val (.ref b1), .val (.int (vd &&& (7 : Int32))), .val (.int ((((vd.toUInt32 >>> ((3 : Int32) &&& 31).toUInt32).toInt32) &&& (15 : Int32)) % ((9 : Int32) - (vd &&& (7 : Int32))))), .val (.int (ve &&& (7 : Int32))), .unset, .unset, .unset, .unset, .unset, .unset, .unset, .unset] [(.int (9 : Int32)), (.int (((ve.toUInt32 >>> ((3 : Int32) &&& 31).toUInt32).toInt32) &&& (15 : Int32)))]))
  refine own_Fin.go (fun t k => XS.iload X9.here hx rfl (hb hby at_110) rfl k) ?_
  show own_Fin _ _ _ _ _ _ _ (T9.setTop (mkF m 112 #[.val (.int va), .val (.int vb), .val (.int vc), .val (.int vd), .val (.int ve), .val (.int vf), .val (.ref b1), .val (.int (vd &&& (7 : Int32))), .val (.int ((((vd.toUInt32 >>> ((3 : Int32) &&& 31).toUInt32).toInt32) &&& (15 : Int32)) % ((9 : Int32) - (vd &&& (7 : Int32))))), .val (.int (ve &&& (7 : Int32))), .unset, .unset, .unset, .unset, .unset, .unset, .unset, .unset] [(.int (ve &&& (7 : Int32))), (.int (9 : Int32)), (.int (((ve.toUInt32 >>> ((3 : Int32) &&& 31).toUInt32).toInt32) &&& (15 : Int32)))]))
  refine own_Fin.go (fun t k => XS.isub X9.here hx rfl (hb hby at_112) rfl k) ?_
  show own_Fin _ _ _ _ _ _ _ (T9.setTop (mkF m 113 #[.val (.int va), .val (.int vb), .val (.int vc), .val (.int vd), .val (.int ve), .val (.int vf), .val (.ref b1), .val (.int (vd &&& (7 : Int32))), .val (.int ((((vd.toUInt32 >>> ((3 : Int32) &&& 31).toUInt32).toInt32) &&& (15 : Int32)) % ((9 : Int32) - (vd &&& (7 : Int32))))), .val (.int (ve &&& (7 : Int32))), .unset, .unset, .unset, .unset, .unset, .unset, .unset, .unset] [(.int ((9 : Int32) - (ve &&& (7 : Int32)))), (.int (((ve.toUInt32 >>> ((3 : Int32) &&& 31).toUInt32).toInt32) &&& (15 : Int32)))]))
  refine own_Fin.go (fun t k => iremM X9 hx rfl (hb hby at_113) rfl (own_nz ve) k) ?_
  show own_Fin _ _ _ _ _ _ _ (T9.setTop (mkF m 114 #[.val (.int va), .val (.int vb), .val (.int vc), .val (.int vd), .val (.int ve), .val (.int vf), .val (.ref b1), .val (.int (vd &&& (7 : Int32))), .val (.int ((((vd.toUInt32 >>> ((3 : Int32) &&& 31).toUInt32).toInt32) &&& (15 : Int32)) % ((9 : Int32) - (vd &&& (7 : Int32))))), .val (.int (ve &&& (7 : Int32))), .unset, .unset, .unset, .unset, .unset, .unset, .unset, .unset] [(.int ((((ve.toUInt32 >>> ((3 : Int32) &&& 31).toUInt32).toInt32) &&& (15 : Int32)) % ((9 : Int32) - (ve &&& (7 : Int32)))))]))
  refine own_Fin.go (fun t k => XS.istore X9.here hx rfl (hb hby at_114) rfl (l' := #[.val (.int va), .val (.int vb), .val (.int vc), .val (.int vd), .val (.int ve), .val (.int vf), .val (.ref b1), .val (.int (vd &&& (7 : Int32))), .val (.int ((((vd.toUInt32 >>> ((3 : Int32) &&& 31).toUInt32).toInt32) &&& (15 : Int32)) % ((9 : Int32) - (vd &&& (7 : Int32))))), .val (.int (ve &&& (7 : Int32))), .val (.int ((((ve.toUInt32 >>> ((3 : Int32) &&& 31).toUInt32).toInt32) &&& (15 : Int32)) % ((9 : Int32) - (ve &&& (7 : Int32))))), .unset, .unset, .unset, .unset, .unset, .unset, .unset]) rfl k) ?_
  show own_Fin _ _ _ _ _ _ _ (T9.setTop (mkF m 116 #[.val (.int va), .val (.int vb), .val (.int vc), .val (.int vd), .val (.int ve), .val (.int vf), .val (.ref b1), .val (.int (vd &&& (7 : Int32))), .val (.int ((((vd.toUInt32 >>> ((3 : Int32) &&& 31).toUInt32).toInt32) &&& (15 : Int32)) % ((9 : Int32) - (vd &&& (7 : Int32))))), .val (.int (ve &&& (7 : Int32))), .val (.int ((((ve.toUInt32 >>> ((3 : Int32) &&& 31).toUInt32).toInt32) &&& (15 : Int32)) % ((9 : Int32) - (ve &&& (7 : Int32))))), .unset, .unset, .unset, .unset, .unset, .unset, .unset] []))
  refine own_Fin.go (fun t k => XS.iload X9.here hx rfl (hb hby at_116) rfl k) ?_
  show own_Fin _ _ _ _ _ _ _ (T9.setTop (mkF m 118 #[.val (.int va), .val (.int vb), .val (.int vc), .val (.int vd), .val (.int ve), .val (.int vf), .val (.ref b1), .val (.int (vd &&& (7 : Int32))), .val (.int ((((vd.toUInt32 >>> ((3 : Int32) &&& 31).toUInt32).toInt32) &&& (15 : Int32)) % ((9 : Int32) - (vd &&& (7 : Int32))))), .val (.int (ve &&& (7 : Int32))), .val (.int ((((ve.toUInt32 >>> ((3 : Int32) &&& 31).toUInt32).toInt32) &&& (15 : Int32)) % ((9 : Int32) - (ve &&& (7 : Int32))))), .unset, .unset, .unset, .unset, .unset, .unset, .unset] [(.int vf)]))
  refine own_Fin.go (fun t k => XS.bipush X9.here hx rfl (hb hby at_118) k) ?_
  show own_Fin _ _ _ _ _ _ _ (T9.setTop (mkF m 120 #[.val (.int va), .val (.int vb), .val (.int vc), .val (.int vd), .val (.int ve), .val (.int vf), .val (.ref b1), .val (.int (vd &&& (7 : Int32))), .val (.int ((((vd.toUInt32 >>> ((3 : Int32) &&& 31).toUInt32).toInt32) &&& (15 : Int32)) % ((9 : Int32) - (vd &&& (7 : Int32))))), .val (.int (ve &&& (7 : Int32))), .val (.int ((((ve.toUInt32 >>> ((3 : Int32) &&& 31).toUInt32).toInt32) &&& (15 : Int32)) % ((9 : Int32) - (ve &&& (7 : Int32))))), .unset, .unset, .unset, .unset, .unset, .unset, .unset] [(.int (7 : Int32)), (.int vf)]))
  refine own_Fin.go (fun t k => XS.iand X9.here hx rfl (hb hby at_120) rfl k) ?_
  show own_Fin _ _ _ _ _ _ _ (T9.setTop (mkF m 121 #[.val (.int va), .val (.int vb), .val (.int vc), .val (.int vd), .val (.int ve), .val (.int vf), .val (.ref b1), .val (.int (vd &&& (7 : Int32))), .val (.int ((((vd.toUInt32 >>> ((3 : Int32) &&& 31).toUInt32).toInt32) &&& (15 : Int32)) % ((9 : Int32) - (vd &&& (7 : Int32))))), .val (.int (ve &&& (7 : Int32))), .val (.int ((((ve.toUInt32 >>> ((3 : Int32) &&& 31).toUInt32).toInt32) &&& (15 : Int32)) % ((9 : Int32) - (ve &&& (7 : Int32))))), .unset, .unset, .unset, .unset, .unset, .unset, .unset] [(.int (vf &&& (7 : Int32)))]))
  refine own_Fin.go (fun t k => XS.istore X9.here hx rfl (hb hby at_121) rfl (l' := #[.val (.int va), .val (.int vb), .val (.int vc), .val (.int vd), .val (.int ve), .val (.int vf), .val (.ref b1), .val (.int (vd &&& (7 : Int32))), .val (.int ((((vd.toUInt32 >>> ((3 : Int32) &&& 31).toUInt32).toInt32) &&& (15 : Int32)) % ((9 : Int32) - (vd &&& (7 : Int32))))), .val (.int (ve &&& (7 : Int32))), .val (.int ((((ve.toUInt32 >>> ((3 : Int32) &&& 31).toUInt32).toInt32) &&& (15 : Int32)) % ((9 : Int32) - (ve &&& (7 : Int32))))), .val (.int (vf &&& (7 : Int32))), .unset, .unset, .unset, .unset, .unset, .unset]) rfl k) ?_
  show own_Fin _ _ _ _ _ _ _ (T9.setTop (mkF m 123 #[.val (.int va), .val (.int vb), .val (.int vc), .val (.int vd), .val (.int ve), .val (.int vf), .val (.ref b1), .val (.int (vd &&& (7 : Int32))), .val (.int ((((vd.toUInt32 >>> ((3 : Int32) &&& 31).toUInt32).toInt32) &&& (15 : Int32)) % ((9 : Int32) - (vd &&& (7 : Int32))))), .val (.int (ve &&& (7 : Int32))), .val (.int ((((ve.toUInt32 >>> ((3 : Int32) &&& 31).toUInt32).toInt32) &&& (15 : Int32)) % ((9 : Int32) - (ve &&& (7 : Int32))))), .val (.int (vf &&& (7 : Int32))), .unset, .unset, .unset, .unset, .unset, .unset] []))
  refine own_Fin.go (fun t k => XS.iload X9.here hx rfl (hb hby at_123) rfl k) ?_
  show own_Fin _ _ _ _ _ _ _ (T9.setTop (mkF m 125 #[.val (.int va), .val (.int vb), .val (.int vc), .val (.int vd), .val (.int ve), .val (.int vf), .val (.ref b1), .val (.int (vd &&& (7 : Int32))), .val (.int ((((vd.toUInt32 >>> ((3 : Int32) &&& 31).toUInt32).toInt32) &&& (15 : Int32)) % ((9 : Int32) - (vd &&& (7 : Int32))))), .val (.int (ve &&& (7 : Int32))), .val (.int ((((ve.toUInt32 >>> ((3 : Int32) &&& 31).toUInt32).toInt32) &&& (15 : Int32)) % ((9 : Int32) - (ve &&& (7 : Int32))))), .val (.int (vf &&& (7 : Int32))), .unset, .unset, .unset, .unset, .unset, .unset] [(.int vf)]))
  refine own_Fin.go (fun t k => XS.iconst X9.here hx rfl (hb hby at_125) k) ?_
  show own_Fin _ _ _ _ _ _ _ (T9.setTop (mkF m 126 #[.val (.int va), .val (.int vb), .val (.int vc), .val (.int vd), .val (.int ve), .val (.int vf), .val (.ref b1), .val (.int (vd &&& (7 : Int32))), .val (.int ((((vd.toUInt32 >>> ((3 : Int32) &&& 31).toUInt32).toInt32) &&& (15 : Int32)) % ((9 : Int32) - (vd &&& (7 : Int32))))), .val (.int (ve &&& (7 : Int32))), .val (.int ((((ve.toUInt32 >>> ((3 : Int32) &&& 31).toUInt32).toInt32) &&& (15 : Int32)) % ((9 : Int32) - (ve &&& (7 : Int32))))), .val (.int (vf &&& (7 : Int32))), .unset, .unset, .unset, .unset, .unset, .unset] [(.int (3 : Int32)), (.int vf)]))
  refine own_Fin.go (fun t k => XS.iushr X9.here hx rfl (hb hby at_126) rfl k) ?_
  show own_Fin _ _ _ _ _ _ _ (T9.setTop (mkF m 127 #[.val (.int va), .val (.int vb), .val (.int vc), .val (.int vd), .val (.int ve), .val (.int vf), .val (.ref b1), .val (.int (vd &&& (7 : Int32))), .val (.int ((((vd.toUInt32 >>> ((3 : Int32) &&& 31).toUInt32).toInt32) &&& (15 : Int32)) % ((9 : Int32) - (vd &&& (7 : Int32))))), .val (.int (ve &&& (7 : Int32))), .val (.int ((((ve.toUInt32 >>> ((3 : Int32) &&& 31).toUInt32).toInt32) &&& (15 : Int32)) % ((9 : Int32) - (ve &&& (7 : Int32))))), .val (.int (vf &&& (7 : Int32))), .unset, .unset, .unset, .unset, .unset, .unset] [(.int ((vf.toUInt32 >>> ((3 : Int32) &&& 31).toUInt32).toInt32))]))
  refine own_Fin.go (fun t k => XS.bipush X9.here hx rfl (hb hby at_127) k) ?_
  show own_Fin _ _ _ _ _ _ _ (T9.setTop (mkF m 129 #[.val (.int va), .val (.int vb), .val (.int vc), .val (.int vd), .val (.int ve), .val (.int vf), .val (.ref b1), .val (.int (vd &&& (7 : Int32))), .val (.int ((((vd.toUInt32 >>> ((3 : Int32) &&& 31).toUInt32).toInt32) &&& (15 : Int32)) % ((9 : Int32) - (vd &&& (7 : Int32))))), .val (.int (ve &&& (7 : Int32))), .val (.int ((((ve.toUInt32 >>> ((3 : Int32) &&& 31).toUInt32).toInt32) &&& (15 : Int32)) % ((9 : Int32) - (ve &&& (7 : Int32))))), .val (.int (vf &&& (7 : Int32))), .unset, .unset, .unset, .unset, .unset, .unset] [(.int (15 : Int32)), (.int ((vf.toUInt32 >>> ((3 : Int32) &&& 31).toUInt32).toInt32))]))
  refine own_Fin.go (fun t k => XS.iand X9.here hx rfl (hb hby at_129) rfl k) ?_
  show own_Fin _ _ _ _ _ _ _ (T9.setTop (mkF m 130 #[.val (.int va), .val (.int vb), .val (.int vc), .val (.int vd), .val (.int ve), .val (.int vf), .val (.ref b1), .val (.int (vd &&& (7 : Int32))), .val (.int ((((vd.toUInt32 >>> ((3 : Int32) &&& 31).toUInt32).toInt32) &&& (15 : Int32)) % ((9 : Int32) - (vd &&& (7 : Int32))))), .val (.int (ve &&& (7 : Int32))), .val (.int ((((ve.toUInt32 >>> ((3 : Int32) &&& 31).toUInt32).toInt32) &&& (15 : Int32)) % ((9 : Int32) - (ve &&& (7 : Int32))))), .val (.int (vf &&& (7 : Int32))), .unset, .unset, .unset, .unset, .unset, .unset] [(.int (((vf.toUInt32 >>> ((3 : Int32) &&& 31).toUInt32).toInt32) &&& (15 : Int32)))]))
  refine own_Fin.go (fun t k => XS.bipush X9.here hx rfl (hb hby at_130) k) ?_
  show own_Fin _ _ _ _ _ _ _ (T9.setTop (mkF m 132 #[.val (.int va), .val (.int vb), .val (.int vc), .val (.int vd), .val (.int ve), .val (.int vf), .val (.ref b1), .val (.int (vd &&& (7 : Int32))), .val (.int ((((vd.toUInt32 >>> ((3 : Int32) &&& 31).toUInt32).toInt32) &&& (15 : Int32)) % ((9 : Int32) - (vd &&& (7 : Int32))))), .val (.int (ve &&& (7 : Int32))), .val (.int ((((ve.toUInt32 >>> ((3 : Int32) &&& 31).toUInt32).toInt32) &&& (15 : Int32)) % ((9 : Int32) - (ve &&& (7 : Int32))))), .val (.int (vf &&& (7 : Int32))), .unset, .unset, .unset, .unset, .unset, .unset] [(.int (9 : Int32)), (.int (((vf.toUInt32 >>> ((3 : Int32) &&& 31).toUInt32).toInt32) &&& (15 : Int32)))]))
  refine own_Fin.go (fun t k => XS.iload X9.here hx rfl (hb hby at_132) rfl k) ?_
  show own_Fin _ _ _ _ _ _ _ (T9.setTop (mkF m 134 #[.val (.int va), .val (.int vb), .val (.int vc), .val (.int vd), .val (.int ve), .val (.int vf), .val (.ref b1), .val (.int (vd &&& (7 : Int32))), .val (.int ((((vd.toUInt32 >>> ((3 : Int32) &&& 31).toUInt32).toInt32) &&& (15 : Int32)) % ((9 : Int32) - (vd &&& (7 : Int32))))), .val (.int (ve &&& (7 : Int32))), .val (.int ((((ve.toUInt32 >>> ((3 : Int32) &&& 31).toUInt32).toInt32) &&& (15 : Int32)) % ((9 : Int32) - (ve &&& (7 : Int32))))), .val (.int (vf &&& (7 : Int32))), .unset, .unset, .unset, .unset, .unset, .unset] [(.int (vf &&& (7 : Int32))), (.int (9 : Int32)), (.int (((vf.toUInt32 >>> ((3 : Int32) &&& 31).toUInt32).toInt32) &&& (15 : Int32)))]))
  refine own_Fin.go (fun t k => XS.isub X9.here hx rfl (hb hby at_134) rfl k) ?_
  show own_Fin _ _ _ _ _ _ _ (T9.setTop (mkF m 135 #[.val (.int va), .val (.int vb), .val (.int vc), .val (.int vd), .val (.int ve), .val (.int vf), .val (.ref b1), .val (.int (vd &&& (7 : Int32))), .val (.int ((((vd.toUInt32 >>> ((3 : Int32) &&& 31).toUInt32).toInt32) &&& (15 : Int32)) % ((9 : Int32) - (vd &&& (7 : Int32))))), .val (.int (ve &&& (7 : Int32))), .val (.int ((((ve.toUInt32 >>> ((3 : Int32) &&& 31).toUInt32).toInt32) &&& (15 : Int32)) % ((9 : Int32) - (ve &&& (7 : Int32))))), .val (.int (vf &&& (7 : Int32))), .unset, .unset, .unset, .unset, .unset, .unset] [(.int ((9 : Int32) - (vf &&& (7 : Int32)))), (.int (((vf.toUInt32 >>> ((3 : Int32) &&& 31).toUInt32).toInt32) &&& (15 : Int32)))]))
  refine own_Fin.go (fun t k => iremM X9 hx rfl (hb hby at_135) rfl (own_nz vf) k) ?_
  show own_Fin _ _ _ _ _ _ _ (T9.setTop (mkF m 136 #[.val (.int va), .val (.int vb), .val (.int vc), .val (.int vd), .val (.int ve), .val (.int vf), .val (.ref b1), .val (.int (vd &&& (7 : Int32))), .val (.int ((((vd.toUInt32 >>> ((3 : Int32) &&& 31).toUInt32).toInt32) &&& (15 : Int32)) % ((9 : Int32) - (vd &&& (7 : Int32))))), .val (.int (ve &&& (7 : Int32))), .val (.int ((((ve.toUInt32 >>> ((3 : Int32) &&& 31).toUInt32).toInt32) &&& (15 : Int32)) % ((9 : Int32) - (ve &&& (7 : Int32))))), .val (.int (vf &&& (7 : Int32))), .unset, .unset, .unset, .unset, .unset, .unset] [(.int ((((vf.toUInt32 >>> ((3 : Int32) &&& 31).toUInt32).toInt32) &&& (15 : Int32)) % ((9 : Int32) - (vf &&& (7 : Int32)))))]))
  refine own_Fin.go (fun t k => XS.istore X9.here hx rfl (hb hby at_136) rfl (l' := #[.val (.int va), .val (.int vb), .val (.int vc), .val (.int vd), .val (.int ve), .val (.int vf), .val (.ref b1), .val (.int (vd &&& (7 : Int32))), .val (.int ((((vd.toUInt32 >>> ((3 : Int32) &&& 31).toUInt32).toInt32) &&& (15 : Int32)) % ((9 : Int32) - (vd &&& (7 : Int32))))), .val (.int (ve &&& (7 : Int32))), .val (.int ((((ve.toUInt32 >>> ((3 : Int32) &&& 31).toUInt32).toInt32) &&& (15 : Int32)) % ((9 : Int32) - (ve &&& (7 : Int32))))), .val (.int (vf &&& (7 : Int32))), .val (.int ((((vf.toUInt32 >>> ((3 : Int32) &&& 31).toUInt32).toInt32) &&& (15 : Int32)) % ((9 : Int32) - (vf &&& (7 : Int32))))), .unset, .unset, .unset, .unset, .unset]) rfl k) ?_
  show own_Fin _ _ _ _ _ _ _ (T9.setTop (mkF m 138 #[.val (.int va), .val (.int vb), .val (.int vc), .val (.int vd), .val (.int ve), .val (.int vf), .val (.ref b1), .val (.int (vd &&& (7 : Int32))), .val (.int ((((vd.toUInt32 >>> ((3 : Int32) &&& 31).toUInt32).toInt32) &&& (15 : Int32)) % ((9 : Int32) - (vd &&& (7 : Int32))))), .val (.int (ve &&& (7 : Int32))), .val (.int ((((ve.toUInt32 >>> ((3 : Int32) &&& 31).toUInt32).toInt32) &&& (15 : Int32)) % ((9 : Int32) - (ve &&& (7 : Int32))))), .val (.int (vf &&& (7 : Int32))), .val (.int ((((vf.toUInt32 >>> ((3 : Int32) &&& 31).toUInt32).toInt32) &&& (15 : Int32)) % ((9 : Int32) - (vf &&& (7 : Int32))))), .unset, .unset, .unset, .unset, .unset] []))
  exact J138 (vd &&& (7 : Int32)) ((((vd.toUInt32 >>> ((3 : Int32) &&& 31).toUInt32).toInt32) &&& (15 : Int32)) % ((9 : Int32) - (vd &&& (7 : Int32)))) (ve &&& (7 : Int32)) ((((ve.toUInt32 >>> ((3 : Int32) &&& 31).toUInt32).toInt32) &&& (15 : Int32)) % ((9 : Int32) - (ve &&& (7 : Int32)))) (vf &&& (7 : Int32)) ((((vf.toUInt32 >>> ((3 : Int32) &&& 31).toUInt32).toInt32) &&& (15 : Int32)) % ((9 : Int32) - (vf &&& (7 : Int32)))) (by exact ⟨own_bds vd, own_bds ve, own_bds vf⟩)
set_option maxRecDepth 65536 in
set_option maxHeartbeats 40000000 in
theorem comes_1 {Post : Tables → Env → Array Value → State → Outcome → State → Prop} (hpost : ∀ tb e args s v u, (limb_1_1.after args s (.returned v) u = true ∧ limb_1_2.after args s (.returned v) u = true ∧ True) → FrameEnd s (.returned v) u (Jvm.fieldLocs frame_1_writes args s ++ Jvm.arrayLocs frame_1_arrays args s ++ Jvm.staticLocs frame_1_statics s) 16 2176 → Post tb e args s (.returned v) u) :
    ArmFor flags0 classFile x code maxLocals ret World_1 tables_1 room_1 Calls_1 rest_1 Pre_1 Post := by
  intro l hfl _ _ p e ha hc hk s m args below hf hA hF happ hP
  obtain ⟨hcalls, hrest, hpre⟩ := hP
  obtain ⟨-, -, -, hnamed, -, -, -, hat⟩ := (Spec.applies_iff hf).mp happ
  obtain ⟨hg, hn⟩ := and_e (Cond.before_iff.mp (show (Jvm.Cond.and given_1 narrow_1).before args s = true from hpre))
  obtain ⟨hg0, hr0⟩ := and_e hg
  obtain ⟨hg1, hr1⟩ := and_e hr0
  obtain ⟨hg2, hr2⟩ := and_e hr1
  obtain ⟨hg3, hr3⟩ := and_e hr2
  obtain ⟨hg4, hr4⟩ := and_e hr3
  obtain ⟨hg5, hr5⟩ := and_e hr4
  obtain ⟨w0, w1, w2, w3, w4, w5, rfl⟩ : ∃ w0 w1 w2 w3 w4 w5 : Value, args = #[w0, w1, w2, w3, w4, w5] := by
    have hs : args.size = 6 := by simpa [Cond.value, given_1] using hg0
    obtain ⟨L⟩ := args
    match L, hs with
    | [w0, w1, w2, w3, w4, w5], _ => exact ⟨w0, w1, w2, w3, w4, w5, rfl⟩
  have hw := fun d (hd : d ∈ tables_1) => atoms_spec (ws := Jvm.Cond.code x code maxLocals ret :: tables_1) hat d (List.mem_cons_of_mem _ hd)
  have hfit : Fit s := fun {y c} hc i hi => by
    obtain ⟨ha, rfl⟩ := Array.getElem?_eq_some_iff.mp hc
    have q := List.all_eq_true.mp ((Array.all_eq_true_iff_forall_mem.mp hF) _ (Array.getElem_mem ha)) i (List.mem_range.mpr hi)
    simpa [Array.getElem?_eq_getElem hi] using q
  obtain ⟨i0, ei0⟩ := is_v hg1
  obtain rfl : w0 = (.int i0) := Option.some.inj ei0
  obtain ⟨i1, ei1⟩ := is_v hg2
  obtain rfl : w1 = (.int i1) := Option.some.inj ei1
  obtain ⟨i2, ei2⟩ := is_v hg3
  obtain rfl : w2 = (.int i2) := Option.some.inj ei2
  obtain ⟨i3, ei3⟩ := is_v hg4
  obtain rfl : w3 = (.int i3) := Option.some.inj ei3
  obtain ⟨i4, ei4⟩ := is_v hg5
  obtain rfl : w4 = (.int i4) := Option.some.inj ei4
  obtain ⟨i5, ei5⟩ := is_v hr5
  obtain rfl : w5 = (.int i5) := Option.some.inj ei5
  obtain ⟨n, o, h1, h2, h3, _, L, rfl, ⟨rfl, N⟩, hq⟩ := own_rm_law l s _ hw tables_1 i0 i1 i2 i3 i4 i5  s.heap s.heap.size (Nat.le_refl _)  p e ha hc hk s m _ below hf ((Spec.applies_iff_loose hf).mp happ).1 ⟨rfl, State.Warmed39.refl s, rfl⟩ trivial
  refine ⟨n, _, h1, h2, h3, hpost _ _ _ _ _ _ ⟨Cond.after_iff.mpr rfl, Cond.after_iff.mpr (eq_i res_at (Term.int_eval (1)) rfl), trivial⟩ ⟨hq.1, hq.2.1, (hq.2.2.sift fun y hy => Or.inr (N y hy)).mono (by decide) (by decide)⟩⟩
theorem main_1_1 : Claimed_1_1 := comes_1 fun _ _ _ _ _ _ h hF => ⟨h.1, hF⟩
theorem main_1_2 : Claimed_1_2 := comes_1 fun _ _ _ _ _ _ h hF => ⟨h.2.1, hF⟩
end Jvm.Pilot.@@N@@
namespace Jvm.Pilot.@@N@@
open Jvm Jvm.ClassFile Sem Op Lib Jvm.Free Jvm.Stand Jvm.Pilot.@@N@@.Jvm.D
/-! MADE BY PROGRAM (witnessworld.py) out of the Statement's table words and the real class files: 10 classes; the members and pool entries that the words name. The judged class is class 1, her method 3. -/
namespace start1
open Jvm.ClassFile
def u (s : String) : CpInfo := .utf8 (stringToUtf16 s)
/-- a pool by its gaps: so many unusable entries, then the entry; so many at the end -/
def gap : Nat → List CpInfo → List CpInfo
  | 0, r => r
  | n + 1, r => .unusable :: gap n r
def poolList (es : List (Nat × CpInfo)) (last : Nat) : List CpInfo := es.foldr (fun e r => gap e.1 (e.2 :: r)) (gap last [])
def pool (es : List (Nat × CpInfo)) (last : Nat) : Array CpInfo := ⟨poolList es last⟩
def fileOf (pool : Array CpInfo) (this : Nat) (attrs : Array Attribute := #[]) (ms : Array MethodInfo := #[]) (fl : Nat := 33) (sup : Nat := 0) (ifs : Array Nat := #[]) (fds : Array FieldInfo := #[]) : ClassFile where
  minorVersion := 0
  majorVersion := 65
  constantPool := pool
  accessFlags := fl
  thisClass := this
  superClass := sup
  interfaces := ifs
  fields := fds
  methods := ms
  attributes := attrs
def plain (name : String) (sup : Option ClassId) : Class where
  name := name
  kind := .ordinary
  loader := none
  accessFlags := 33
  super := sup
  interfaces := #[]
  cf := none
  fields := #[]
  methods := #[]
  instanceTypes := #[]
  staticTypes := #[]
  resolved := #[]
  callSites := []
  init := .initialized
  statics := none
  mirror := none

def pool0 : Array CpInfo := pool [(5, u "<init>"), (0, u "()V"), (1, .class_ 10), (1, u "java/lang/Object")] 113

def k0c0 : Code := { maxStack := 0, maxLocals := 1, code := object_method_1_code, exceptionTable := #[], attributes := #[] }
def k0m0 : Method := { name := "<init>", desc := "()V", sig := { parameters := [], returnType := none }, accessFlags := 1, code := some k0c0 }
/-- java/lang/Object -/
def k0 : Class := { plain "java/lang/Object" none with
  accessFlags := 33
  interfaces := #[]
  cf := some (fileOf pool0 8 #[] #[{ accessFlags := 1, nameIndex := 5, descriptorIndex := 6, attributes := #[] }] 33 0 #[] #[])
  fields := #[]
  methods := #[k0m0]
  instanceTypes := #[]
  staticTypes := #[]
  resolved := Array.replicate 124 none
  statics := none }

def pool1 : Array CpInfo := pool [(2, .class_ 4), (0, .nameAndType 5 6), (0, u "java/lang/Object"), (0, u "<init>"), (0, u "()V"), (0, .methodref 8 9), (0, .class_ 10), (0, .nameAndType 11 12), (0, u "com/example/wardkeeper/wardkeeper/hl7/LinesAllAsciiPinLaw"), (0, u "hit"), (0, u "([BIII)Z"), (0, .class_ 14), (0, u "com/example/wardkeeper/wardkeeper/hl7/Lines"), (0, .methodref 13 3), (0, .methodref 13 17), (0, .nameAndType 18 19), (0, u "add"), (0, u "([BII)V"), (0, .methodref 13 21), (0, .nameAndType 22 6), (0, u "clear"), (0, .methodref 8 24), (0, .nameAndType 25 26), (0, u "bad"), (0, u "([BII)Z"), (0, .methodref 13 28), (0, .nameAndType 29 30), (0, u "allAscii"), (0, u "()Z"), (3, u "law"), (0, u "(IIIIII)Z")] 4

def k1m0 : Method := { name := "<init>", desc := "()V", sig := { parameters := [], returnType := none }, accessFlags := 2, code := none }
def k1c1 : Code := { maxStack := 3, maxLocals := 4, code := method_2_code, exceptionTable := #[], attributes := #[] }
def k1m1 : Method := { name := "hit", desc := "([BIII)Z", sig := { parameters := [(.array .byte), .int, .int, .int], returnType := some .boolean }, accessFlags := 10, code := some k1c1 }
def k1c2 : Code := { maxStack := 4, maxLocals := 3, code := method_3_code, exceptionTable := #[], attributes := #[] }
def k1m2 : Method := { name := "bad", desc := "([BII)Z", sig := { parameters := [(.array .byte), .int, .int], returnType := some .boolean }, accessFlags := 10, code := some k1c2 }
def k1c3 : Code := { maxStack := 4, maxLocals := 18, code := code, exceptionTable := #[], attributes := #[] }
def k1m3 : Method := { name := "law", desc := "(IIIIII)Z", sig := { parameters := [.int, .int, .int, .int, .int, .int], returnType := some .boolean }, accessFlags := 9, code := some k1c3 }
/-- com/example/wardkeeper/wardkeeper/hl7/LinesAllAsciiPinLaw -/
def k1 : Class := { plain "com/example/wardkeeper/wardkeeper/hl7/LinesAllAsciiPinLaw" (some 0) with
  accessFlags := 49
  interfaces := #[]
  cf := some (fileOf pool1 8 #[] #[{ accessFlags := 2, nameIndex := 5, descriptorIndex := 6, attributes := #[] }, { accessFlags := 10, nameIndex := 11, descriptorIndex := 12, attributes := #[] }, { accessFlags := 10, nameIndex := 25, descriptorIndex := 26, attributes := #[] }, { accessFlags := 9, nameIndex := 34, descriptorIndex := 35, attributes := #[] }] 49 2 #[] #[])
  fields := #[]
  methods := #[k1m0, k1m1, k1m2, k1m3]
  instanceTypes := #[]
  staticTypes := #[]
  resolved := Array.replicate 40 none
  statics := none }

def pool2 : Array CpInfo := pool [(1, .methodref 2 3), (0, .class_ 4), (0, .nameAndType 5 6), (0, u "java/lang/Object"), (0, u "<init>"), (0, u "()V"), (0, .class_ 8), (0, u "com/example/wardkeeper/wardkeeper/hl7/Lines"), (0, .fieldref 7 10), (0, .nameAndType 11 12), (0, u "bytes"), (0, u "[B"), (0, .fieldref 7 14), (0, .nameAndType 15 16), (0, u "ends"), (0, u "[I"), (0, .fieldref 7 18), (0, .nameAndType 19 20), (0, u "count"), (0, u "I"), (0, .methodref 7 22), (0, .nameAndType 23 24), (0, u "start"), (0, u "(I)I"), (15, .methodref 41 42), (0, .class_ 43), (0, .nameAndType 44 45), (0, u "java/lang/System"), (0, u "arraycopy"), (0, u "(Ljava/lang/Object;ILjava/lang/Object;II)V"), (0, .methodref 7 47), (0, .nameAndType 48 49), (0, u "byteCount"), (0, u "()I"), (11, u "INITIAL_BYTES"), (2, u "INITIAL_LINES"), (3, u "add"), (0, u "([BII)V"), (1, u "clear"), (0, u "allAscii"), (0, u "()Z")] 6

def k2c0 : Code := { maxStack := 2, maxLocals := 1, code := prog_16_method_1_code, exceptionTable := #[], attributes := #[] }
def k2m0 : Method := { name := "<init>", desc := "()V", sig := { parameters := [], returnType := none }, accessFlags := 0, code := some k2c0 }
def k2c1 : Code := { maxStack := 5, maxLocals := 5, code := prog_16_method_2_code, exceptionTable := #[], attributes := #[] }
def k2m1 : Method := { name := "add", desc := "([BII)V", sig := { parameters := [(.array .byte), .int, .int], returnType := none }, accessFlags := 0, code := some k2c1 }
def k2c2 : Code := { maxStack := 2, maxLocals := 1, code := prog_16_method_3_code, exceptionTable := #[], attributes := #[] }
def k2m2 : Method := { name := "clear", desc := "()V", sig := { parameters := [], returnType := none }, accessFlags := 0, code := some k2c2 }
def k2c3 : Code := { maxStack := 2, maxLocals := 1, code := prog_16_method_5_code, exceptionTable := #[], attributes := #[] }
def k2m3 : Method := { name := "byteCount", desc := "()I", sig := { parameters := [], returnType := some .int }, accessFlags := 0, code := some k2c3 }
def k2c4 : Code := { maxStack := 2, maxLocals := 3, code := prog_16_method_6_code, exceptionTable := #[], attributes := #[] }
def k2m4 : Method := { name := "allAscii", desc := "()Z", sig := { parameters := [], returnType := some .boolean }, accessFlags := 0, code := some k2c4 }
def k2c5 : Code := { maxStack := 3, maxLocals := 2, code := prog_16_method_9_code, exceptionTable := #[], attributes := #[] }
def k2m5 : Method := { name := "start", desc := "(I)I", sig := { parameters := [.int], returnType := some .int }, accessFlags := 2, code := some k2c5 }
/-- com/example/wardkeeper/wardkeeper/hl7/Lines -/
def k2 : Class := { plain "com/example/wardkeeper/wardkeeper/hl7/Lines" (some 0) with
  accessFlags := 48
  interfaces := #[]
  cf := some (fileOf pool2 7 #[] #[{ accessFlags := 0, nameIndex := 5, descriptorIndex := 6, attributes := #[] }, { accessFlags := 0, nameIndex := 68, descriptorIndex := 69, attributes := #[] }, { accessFlags := 0, nameIndex := 71, descriptorIndex := 6, attributes := #[] }, { accessFlags := 0, nameIndex := 48, descriptorIndex := 49, attributes := #[] }, { accessFlags := 0, nameIndex := 72, descriptorIndex := 73, attributes := #[] }, { accessFlags := 2, nameIndex := 23, descriptorIndex := 24, attributes := #[] }] 48 2 #[] #[{ accessFlags := 26, nameIndex := 61, descriptorIndex := 20, attributes := #[] }, { accessFlags := 26, nameIndex := 64, descriptorIndex := 20, attributes := #[] }, { accessFlags := 2, nameIndex := 11, descriptorIndex := 12, attributes := #[] }, { accessFlags := 2, nameIndex := 15, descriptorIndex := 16, attributes := #[] }, { accessFlags := 2, nameIndex := 19, descriptorIndex := 20, attributes := #[] }])
  fields := #[{ name := "INITIAL_BYTES", type := .int, accessFlags := 26, slot := 0, constantValue := 0 }, { name := "INITIAL_LINES", type := .int, accessFlags := 26, slot := 1, constantValue := 0 }, { name := "bytes", type := (.array .byte), accessFlags := 2, slot := 0, constantValue := 0 }, { name := "ends", type := (.array .int), accessFlags := 2, slot := 1, constantValue := 0 }, { name := "count", type := .int, accessFlags := 2, slot := 2, constantValue := 0 }]
  methods := #[k2m0, k2m1, k2m2, k2m3, k2m4, k2m5]
  instanceTypes := #[(.array .byte), (.array .int), .int]
  staticTypes := #[.int, .int]
  resolved := Array.replicate 80 none
  statics := none }

def pool3 : Array CpInfo := pool [(2, .class_ 4), (1, u "java/lang/Object"), (0, u "<init>"), (0, u "()V"), (1, .class_ 10), (1, u "java/lang/System"), (0, u "allowSecurityManager"), (0, u "I"), (16, u "cons"), (0, u "Ljava/io/Console;"), (77, .class_ 110), (1, u "java/lang/System$CallersHolder"), (43, u "initialErrStream"), (0, u "Ljava/io/PrintStream;"), (19, u "security"), (0, u "Ljava/lang/SecurityManager;"), (31, .class_ 209), (0, u "java/lang/System$1"), (7, u "props"), (0, u "Ljava/util/Properties;"), (2, u "lineSeparator"), (0, u "Ljava/lang/String;"), (96, .class_ 321), (1, u "java/lang/System$LoggerFinder"), (5, .class_ 328), (0, u "java/lang/System$Logger"), (67, u "err"), (2, u "out"), (91, u "notSupportedJnuEncoding"), (15, u "in"), (17, u "initialIn"), (0, u "Ljava/io/InputStream;"), (35, u "bootLayer"), (0, u "Ljava/lang/ModuleLayer;"), (99, .class_ 664), (0, u "java/lang/System$2"), (9, u "NEVER"), (2, u "MAYBE"), (49, u "arraycopy"), (0, u "(Ljava/lang/Object;ILjava/lang/Object;II)V"), (72, .class_ 802), (0, u "java/lang/System$Logger$Level")] 31

def k3m0 : Method := { name := "<init>", desc := "()V", sig := { parameters := [], returnType := none }, accessFlags := 2, code := none }
def k3m1 : Method := { name := "arraycopy", desc := "(Ljava/lang/Object;ILjava/lang/Object;II)V", sig := { parameters := [(.object "java/lang/Object"), .int, (.object "java/lang/Object"), .int, .int], returnType := none }, accessFlags := 265, code := none }
/-- java/lang/System -/
def k3 : Class := { plain "java/lang/System" (some 0) with
  accessFlags := 49
  interfaces := #[]
  cf := some (fileOf pool3 8 #[.nestMembers #[319, 327, 801, 108, 663, 208]] #[{ accessFlags := 2, nameIndex := 5, descriptorIndex := 6, attributes := #[] }, { accessFlags := 265, nameIndex := 727, descriptorIndex := 728, attributes := #[] }] 49 2 #[] #[{ accessFlags := 25, nameIndex := 507, descriptorIndex := 526, attributes := #[] }, { accessFlags := 25, nameIndex := 399, descriptorIndex := 155, attributes := #[] }, { accessFlags := 25, nameIndex := 396, descriptorIndex := 155, attributes := #[] }, { accessFlags := 10, nameIndex := 525, descriptorIndex := 526, attributes := #[] }, { accessFlags := 26, nameIndex := 674, descriptorIndex := 12, attributes := #[] }, { accessFlags := 26, nameIndex := 677, descriptorIndex := 12, attributes := #[] }, { accessFlags := 10, nameIndex := 11, descriptorIndex := 12, attributes := #[] }, { accessFlags := 74, nameIndex := 175, descriptorIndex := 176, attributes := #[] }, { accessFlags := 10, nameIndex := 491, descriptorIndex := 222, attributes := #[] }, { accessFlags := 74, nameIndex := 29, descriptorIndex := 30, attributes := #[] }, { accessFlags := 74, nameIndex := 154, descriptorIndex := 155, attributes := #[] }, { accessFlags := 10, nameIndex := 217, descriptorIndex := 218, attributes := #[] }, { accessFlags := 10, nameIndex := 221, descriptorIndex := 222, attributes := #[] }, { accessFlags := 8, nameIndex := 562, descriptorIndex := 563, attributes := #[] }])
  fields := #[{ name := "in", type := (.object "java/io/InputStream"), accessFlags := 25, slot := 0, constantValue := 0 }, { name := "out", type := (.object "java/io/PrintStream"), accessFlags := 25, slot := 1, constantValue := 0 }, { name := "err", type := (.object "java/io/PrintStream"), accessFlags := 25, slot := 2, constantValue := 0 }, { name := "initialIn", type := (.object "java/io/InputStream"), accessFlags := 10, slot := 3, constantValue := 0 }, { name := "NEVER", type := .int, accessFlags := 26, slot := 4, constantValue := 0 }, { name := "MAYBE", type := .int, accessFlags := 26, slot := 5, constantValue := 0 }, { name := "allowSecurityManager", type := .int, accessFlags := 10, slot := 6, constantValue := 0 }, { name := "security", type := (.object "java/lang/SecurityManager"), accessFlags := 74, slot := 7, constantValue := 0 }, { name := "notSupportedJnuEncoding", type := (.object "java/lang/String"), accessFlags := 10, slot := 8, constantValue := 0 }, { name := "cons", type := (.object "java/io/Console"), accessFlags := 74, slot := 9, constantValue := 0 }, { name := "initialErrStream", type := (.object "java/io/PrintStream"), accessFlags := 74, slot := 10, constantValue := 0 }, { name := "props", type := (.object "java/util/Properties"), accessFlags := 10, slot := 11, constantValue := 0 }, { name := "lineSeparator", type := (.object "java/lang/String"), accessFlags := 10, slot := 12, constantValue := 0 }, { name := "bootLayer", type := (.object "java/lang/ModuleLayer"), accessFlags := 8, slot := 13, constantValue := 0 }]
  methods := #[k3m0, k3m1]
  instanceTypes := #[]
  staticTypes := #[(.object "java/io/InputStream"), (.object "java/io/PrintStream"), (.object "java/io/PrintStream"), (.object "java/io/InputStream"), .int, .int, .int, (.object "java/lang/SecurityManager"), (.object "java/lang/String"), (.object "java/io/Console"), (.object "java/io/PrintStream"), (.object "java/util/Properties"), (.object "java/lang/String"), (.object "java/lang/ModuleLayer")]
  resolved := Array.replicate 834 none
  statics := none }

def pool4 : Array CpInfo := pool [(1, u "java/lang/Cloneable"), (0, .class_ 1), (0, u "java/lang/Object"), (0, .class_ 3)] 3

/-- java/lang/Cloneable -/
def k4 : Class := { plain "java/lang/Cloneable" (some 0) with
  accessFlags := 1537
  interfaces := #[]
  cf := some (fileOf pool4 2 #[] #[] 1537 4 #[] #[])
  fields := #[]
  methods := #[]
  instanceTypes := #[]
  staticTypes := #[]
  resolved := Array.replicate 8 none
  statics := none }

def pool5 : Array CpInfo := pool [(1, u "java/io/Serializable"), (0, .class_ 1), (0, u "java/lang/Object"), (0, .class_ 3)] 3

/-- java/io/Serializable -/
def k5 : Class := { plain "java/io/Serializable" (some 0) with
  accessFlags := 1537
  interfaces := #[]
  cf := some (fileOf pool5 2 #[] #[] 1537 4 #[] #[])
  fields := #[]
  methods := #[]
  instanceTypes := #[]
  staticTypes := #[]
  resolved := Array.replicate 8 none
  statics := none }

/-- the primitive byte -/
def k6 : Class := { plain "byte" none with kind := .primitive 'B', accessFlags := 0x411 }
/-- [B -/
def k7 : Class := { plain "[B" (some 0) with kind := .array 6 .byte, interfaces := #[4, 5], accessFlags := 1041 }

/-- the primitive int -/
def k8 : Class := { plain "int" none with kind := .primitive 'I', accessFlags := 0x411 }
/-- [I -/
def k9 : Class := { plain "[I" (some 0) with kind := .array 8 .int, interfaces := #[4, 5], accessFlags := 1041 }

def heap : Heap := #[]
def classes : Array Class := #[k0, k1, k2, k3, k4, k5, k6, k7, k8, k9]
def interned : List (Array UInt16 × Addr) := []
def slotsUsed : Nat := 0
def theMethod : MethodId := ⟨1, 3⟩
def args0 : Array Value := #[.int 5, .int 300, .int 7, .int 9, .int 3, .int 2]
def aboutOver (below : List Frame) : State where
  vm := { classes := classes, interned := interned.toArray }
  heap := heap
  slotsUsed := slotsUsed
  threads := #[{ frames := .invoking theMethod args0 :: below }]
def below0 : List Frame := [.native { method := ⟨0, 0⟩, args := #[] }]
def about1 : State := aboutOver below0
def p0 : Program := .bare "" "" ""
def e0 : Env := launch0.env 0 0 0
theorem w_frames : about1.frames = Frame.invoking theMethod args0 :: below0 := rfl
set_option maxRecDepth 65536 in
theorem w_args : argsFit about1.vm theMethod args0 = true := by decide +kernel
set_option maxRecDepth 65536 in
theorem w_heap : heapFits about1 = true := by decide +kernel
set_option maxRecDepth 65536 in
theorem w_runnable : about1.curStatus? = some .runnable := by decide +kernel
set_option maxRecDepth 65536 in
theorem w_alone : about1.alone = true := by decide +kernel
set_option maxRecDepth 65536 in
theorem w_named : about1.methodNamed? x = some theMethod := by decide +kernel
set_option maxRecDepth 65536 in
theorem w_hears : about1.hears theMethod below0 = true := by decide +kernel
set_option maxRecDepth 65536 in
theorem w_ripe : about1.ripe theMethod args0 below0 = true := by decide +kernel
theorem w_running : about1.status = .running := rfl
set_option maxRecDepth 65536 in
theorem w_room : about1.hasRoom e0.platform room_1 = true :=
  launch0.hasRoom_least _ room_1 (by decide +kernel) (by decide +kernel) (by decide +kernel) (by decide +kernel) (by decide +kernel) (by decide +kernel)
theorem allAtoms_all (ts : List Jvm.Cond) (a : Array Jvm.Value) (st : Jvm.State) : (allAtoms ts).before a st = ts.all (fun c => c.before a st) := by
  induction ts with
  | nil => rfl
  | cons c t ih =>
    show (Jvm.Cond.and c (allAtoms t)).before a st = _
    rw [Jvm.Cond.before_and, ih, List.all_cons]
def words1 : List Jvm.Cond := Jvm.Cond.code x code maxLocals ret :: tables_1
/-- a 'code' word, met by the world's own term for the bytes: nothing is compared byte by byte -/
theorem code_word {y : MethodName} {bytes : ByteArray} {mx : Nat} {rt : Option FieldType} {a : Array Value} {s : State} {m : MethodId} {meth : Method} {c : Code} (h1 : s.methodNamed? y = some m) (h2 : s.vm.method? m = some meth) (h3 : meth.code = some c) (h4 : c.code = bytes)
    (h5 : (c.maxLocals == mx && c.exceptionTable.isEmpty && decide (c.maxStack ≤ mostOperands) && decide (meth.sig.returnType = rt) && !meth.locks && decide (parseMethodDescriptor y.desc = some meth.sig)) = true) : (Jvm.Cond.code y bytes mx rt).before a s = true := by
  simp only [Bool.and_eq_true, beq_iff_eq, Bool.not_eq_true', decide_eq_true_eq] at h5
  obtain ⟨⟨⟨⟨⟨g1, g2⟩, g3⟩, g4⟩, g5⟩, g6⟩ := h5
  simp [Cond.before, Cond.holds, Cond.value, h1, h2, h3, h4, g1, g2, g3, g4, g5, g6]
def isCode : Jvm.Cond → Bool
  | .code _ _ _ _ => true
  | _ => false
theorem all_split {L : List Jvm.Cond} {P : Jvm.Cond → Bool} (h1 : L.all (fun c => isCode c || P c) = true) (h2 : ∀ c ∈ L.filter isCode, P c = true) : L.all P = true := by
  refine List.all_eq_true.mpr fun c hc => ?_
  have h := List.all_eq_true.mp h1 c hc
  rcases Bool.eq_false_or_eq_true (isCode c) with hi | hi
  · exact h2 c (List.mem_filter.mpr ⟨hc, hi⟩)
  · simpa [hi] using h
set_option maxRecDepth 65536 in
theorem w_c0 : (Jvm.Cond.code x code maxLocals ret).before args0 about1 = true := code_word (m := ⟨1, 3⟩) (meth := k1m3) (c := k1c3) (by decide +kernel) rfl rfl rfl (by decide +kernel)
set_option maxRecDepth 65536 in
theorem w_c1 : (Jvm.Cond.code ({ cls := "com/example/wardkeeper/wardkeeper/hl7/Lines", name := "<init>", desc := "()V" } : Jvm.MethodName) prog_16_method_1_code (1 : Nat) (Option.none : Option Jvm.ClassFile.FieldType)).before args0 about1 = true := code_word (m := ⟨2, 0⟩) (meth := k2m0) (c := k2c0) (by decide +kernel) rfl rfl rfl (by decide +kernel)
set_option maxRecDepth 65536 in
theorem w_c2 : (Jvm.Cond.code ({ cls := "java/lang/Object", name := "<init>", desc := "()V" } : Jvm.MethodName) object_method_1_code (1 : Nat) (Option.none : Option Jvm.ClassFile.FieldType)).before args0 about1 = true := code_word (m := ⟨0, 0⟩) (meth := k0m0) (c := k0c0) (by decide +kernel) rfl rfl rfl (by decide +kernel)
set_option maxRecDepth 65536 in
theorem w_c3 : (Jvm.Cond.code ({ cls := "com/example/wardkeeper/wardkeeper/hl7/Lines", name := "clear", desc := "()V" } : Jvm.MethodName) prog_16_method_3_code (1 : Nat) (Option.none : Option Jvm.ClassFile.FieldType)).before args0 about1 = true := code_word (m := ⟨2, 2⟩) (meth := k2m2) (c := k2c2) (by decide +kernel) rfl rfl rfl (by decide +kernel)
set_option maxRecDepth 65536 in
theorem w_c4 : (Jvm.Cond.code ({ cls := "com/example/wardkeeper/wardkeeper/hl7/Lines", name := "add", desc := "([BII)V" } : Jvm.MethodName) prog_16_method_2_code (5 : Nat) (Option.none : Option Jvm.ClassFile.FieldType)).before args0 about1 = true := code_word (m := ⟨2, 1⟩) (meth := k2m1) (c := k2c1) (by decide +kernel) rfl rfl rfl (by decide +kernel)
set_option maxRecDepth 65536 in
theorem w_c5 : (Jvm.Cond.code ({ cls := "com/example/wardkeeper/wardkeeper/hl7/Lines", name := "start", desc := "(I)I" } : Jvm.MethodName) prog_16_method_9_code (2 : Nat) (Option.some Jvm.ClassFile.FieldType.int)).before args0 about1 = true := code_word (m := ⟨2, 5⟩) (meth := k2m5) (c := k2c5) (by decide +kernel) rfl rfl rfl (by decide +kernel)
set_option maxRecDepth 65536 in
theorem w_c6 : (Jvm.Cond.code ({ cls := "com/example/wardkeeper/wardkeeper/hl7/LinesAllAsciiPinLaw", name := "bad", desc := "([BII)Z" } : Jvm.MethodName) method_3_code (3 : Nat) (Option.some Jvm.ClassFile.FieldType.boolean)).before args0 about1 = true := code_word (m := ⟨1, 2⟩) (meth := k1m2) (c := k1c2) (by decide +kernel) rfl rfl rfl (by decide +kernel)
set_option maxRecDepth 65536 in
theorem w_c7 : (Jvm.Cond.code ({ cls := "com/example/wardkeeper/wardkeeper/hl7/LinesAllAsciiPinLaw", name := "hit", desc := "([BIII)Z" } : Jvm.MethodName) method_2_code (4 : Nat) (Option.some Jvm.ClassFile.FieldType.boolean)).before args0 about1 = true := code_word (m := ⟨1, 1⟩) (meth := k1m1) (c := k1c1) (by decide +kernel) rfl rfl rfl (by decide +kernel)
set_option maxRecDepth 65536 in
theorem w_c8 : (Jvm.Cond.code ({ cls := "com/example/wardkeeper/wardkeeper/hl7/Lines", name := "allAscii", desc := "()Z" } : Jvm.MethodName) prog_16_method_6_code (3 : Nat) (Option.some Jvm.ClassFile.FieldType.boolean)).before args0 about1 = true := code_word (m := ⟨2, 4⟩) (meth := k2m4) (c := k2c4) (by decide +kernel) rfl rfl rfl (by decide +kernel)
set_option maxRecDepth 65536 in
theorem w_c9 : (Jvm.Cond.code ({ cls := "com/example/wardkeeper/wardkeeper/hl7/Lines", name := "byteCount", desc := "()I" } : Jvm.MethodName) prog_16_method_5_code (1 : Nat) (Option.some Jvm.ClassFile.FieldType.int)).before args0 about1 = true := code_word (m := ⟨2, 3⟩) (meth := k2m3) (c := k2c3) (by decide +kernel) rfl rfl rfl (by decide +kernel)
def codes1 : List Jvm.Cond := [Jvm.Cond.code x code maxLocals ret, Jvm.Cond.code ({ cls := "com/example/wardkeeper/wardkeeper/hl7/Lines", name := "<init>", desc := "()V" } : Jvm.MethodName) prog_16_method_1_code (1 : Nat) (Option.none : Option Jvm.ClassFile.FieldType), Jvm.Cond.code ({ cls := "java/lang/Object", name := "<init>", desc := "()V" } : Jvm.MethodName) object_method_1_code (1 : Nat) (Option.none : Option Jvm.ClassFile.FieldType), Jvm.Cond.code ({ cls := "com/example/wardkeeper/wardkeeper/hl7/Lines", name := "clear", desc := "()V" } : Jvm.MethodName) prog_16_method_3_code (1 : Nat) (Option.none : Option Jvm.ClassFile.FieldType), Jvm.Cond.code ({ cls := "com/example/wardkeeper/wardkeeper/hl7/Lines", name := "add", desc := "([BII)V" } : Jvm.MethodName) prog_16_method_2_code (5 : Nat) (Option.none : Option Jvm.ClassFile.FieldType), Jvm.Cond.code ({ cls := "com/example/wardkeeper/wardkeeper/hl7/Lines", name := "start", desc := "(I)I" } : Jvm.MethodName) prog_16_method_9_code (2 : Nat) (Option.some Jvm.ClassFile.FieldType.int), Jvm.Cond.code ({ cls := "com/example/wardkeeper/wardkeeper/hl7/LinesAllAsciiPinLaw", name := "bad", desc := "([BII)Z" } : Jvm.MethodName) method_3_code (3 : Nat) (Option.some Jvm.ClassFile.FieldType.boolean), Jvm.Cond.code ({ cls := "com/example/wardkeeper/wardkeeper/hl7/LinesAllAsciiPinLaw", name := "hit", desc := "([BIII)Z" } : Jvm.MethodName) method_2_code (4 : Nat) (Option.some Jvm.ClassFile.FieldType.boolean), Jvm.Cond.code ({ cls := "com/example/wardkeeper/wardkeeper/hl7/Lines", name := "allAscii", desc := "()Z" } : Jvm.MethodName) prog_16_method_6_code (3 : Nat) (Option.some Jvm.ClassFile.FieldType.boolean), Jvm.Cond.code ({ cls := "com/example/wardkeeper/wardkeeper/hl7/Lines", name := "byteCount", desc := "()I" } : Jvm.MethodName) prog_16_method_5_code (1 : Nat) (Option.some Jvm.ClassFile.FieldType.int)]
set_option maxRecDepth 65536 in
theorem codes_eq : words1.filter isCode = codes1 := rfl
theorem w_codes : ∀ c ∈ words1.filter isCode, c.before args0 about1 = true := by
  rw [codes_eq]
  intro c hc
  simp only [codes1, List.mem_cons, List.not_mem_nil, or_false] at hc
  rcases hc with rfl | rfl | rfl | rfl | rfl | rfl | rfl | rfl | rfl | rfl
  · exact w_c0
  · exact w_c1
  · exact w_c2
  · exact w_c3
  · exact w_c4
  · exact w_c5
  · exact w_c6
  · exact w_c7
  · exact w_c8
  · exact w_c9
set_option maxRecDepth 65536 in
theorem w_t1 : (words1.take 24).all (fun c => isCode c || c.before args0 about1) = true := by decide +kernel
set_option maxRecDepth 65536 in
theorem w_t2 : ((words1.drop 24).take 24).all (fun c => isCode c || c.before args0 about1) = true := by decide +kernel
set_option maxRecDepth 65536 in
theorem w_t3 : ((words1.drop 24).drop 24).all (fun c => isCode c || c.before args0 about1) = true := by decide +kernel
theorem w_tables : (allAtoms (Jvm.Cond.code x code maxLocals ret :: tables_1)).before args0 about1 = true := by
  rw [allAtoms_all]
  show words1.all (fun c => c.before args0 about1) = true
  refine all_split ?_ w_codes
  rw [← List.take_append_drop 24 words1, List.all_append, w_t1, ← List.take_append_drop 24 (words1.drop 24), List.all_append, w_t2, w_t3]
  rfl
set_option maxRecDepth 65536 in
theorem w_case : (Jvm.Cond.and given_1 narrow_1).before args0 about1 = true := by decide +kernel
theorem w_applies : (headSpec (Jvm.Cond.code x code maxLocals ret :: tables_1) room_1).applies x e0.platform about1 = true :=
  (Spec.applies_iff w_frames).mpr ⟨w_running, w_runnable, w_alone, w_named, w_hears, w_ripe, w_room, w_tables⟩
theorem atStart : AtStart classFile x code maxLocals ret World_1 tables_1 room_1 Calls_1 rest_1 Pre_1 launch0 p0 e0 about1 theMethod args0 below0 :=
  ⟨lists_1, trivial, launch0.admits_env _ _ _, launch0.least_env, fairChoices_fair.cas, fairChoices_fair.clock, w_frames, w_args, w_heap, w_applies, trivial, trivial, w_case⟩
end start1
theorem witness_1 : WitnessClaimed_1 := ⟨start1.p0, start1.e0, start1.about1, start1.theMethod, start1.args0, start1.below0, start1.atStart⟩
end Jvm.Pilot.@@N@@
