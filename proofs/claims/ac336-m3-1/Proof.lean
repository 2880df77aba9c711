import JvmDerived
import JvmDerived.Pilot.@@N@@Statement
import JvmDerived.Pilot.@@N@@Code
set_option linter.unusedVariables false
set_option linter.unusedSimpArgs false
namespace Jvm.RoadKit
open Sem ClassFile Op Lib Jvm.Stand Jvm.Free Jvm.LawKit
section New
variable {p : Program} {l : Launch} {e : Env} {R : Room} {s : State} {m : MethodId} {args : Array Value} {below : List Frame} {meth : Method} {c : Code} {T : State} {locs : List Loc} {cells slots : Nat}
theorem retI (X : Stand p l e R s m args below meth c T locs cells slots) (hx : p.tables.exec = Jvm.exec) {pc : Nat} {Ls : Array Slot} {z : Int32} {rest : List Value} (hret : meth.sig.returnType = some .int) (hd : decode c.code pc = .ok (.ireturn, 1)) {fs : List Frame}
    (hl : ∀ (f : JFrame) (acts : List Action), f.method = m → f.locked = none → f.entered = [] → (doReturn e (T.setTop f) acts (some (.int z))).1 = T.setFrames fs) : Steps p.tables e below (T.setTop (mkF m pc Ls (.int z :: rest))) (T.setFrames fs) := by
  have hm' : T.vm.method? m = some meth := X.method'
  have hn : narrow .int (.int z) = .int z := rfl
  show Steps p.tables e below (T.setTop { method := m, pc := pc, locals := Ls, stack := _ :: rest, locked := none }) _
  jvm_step X.here [X.here.top, hx, hd, hm', hret, hn]
  first | (intro acts; rw [hl _ acts rfl rfl rfl]) | rw [hl _ _ rfl rfl rfl]
  exact Steps.refl _
end New
end Jvm.RoadKit
namespace Jvm.Pilot.@@N@@
open Jvm Jvm.ClassFile Sem Op Lib Jvm.Free Jvm.Stand Jvm.LawKit Jvm.RoadKit Bundle Jvm.Pilot.@@N@@.Jvm.D
/-! The walk in a goal-driven form: own_Fin says that the run from A comes to an end at which Q holds, within the frame. -/
def own_Fin (p : Program) (e : Env) (below : List Frame) (s : State) (Q : Option Value → Heap → List Loc → Prop) (kc ks : Nat) (A : State) : Prop :=
  ∃ s₂ o, Steps p.tables e below A s₂ ∧ s₂.status = .running ∧ Ended s₂ below o ∧ ∃ v L, o = .returned v ∧ Q v s₂.heap L ∧ FrameEnd s o s₂ L kc ks
theorem own_Fin.go {p : Program} {e : Env} {below : List Frame} {s : State} {Q : Option Value → Heap → List Loc → Prop} {kc ks : Nat} {A B : State} (st : ∀ t, Steps p.tables e below B t → Steps p.tables e below A t) (h : own_Fin p e below s Q kc ks B) : own_Fin p e below s Q kc ks A := by
  obtain ⟨s₂, o, h1, h2⟩ := h
  exact ⟨s₂, o, st _ h1, h2⟩
section OwnRet
variable {p : Program} {l : Launch} {e : Env} {R : Room} {s : State} {m : MethodId} {args : Array Value} {below : List Frame} {meth : Method} {c : Code} {T : State} {locs : List Loc} {cells slots : Nat} {Q : Option Value → Heap → List Loc → Prop} {kc ks : Nat}
theorem own_end (X : Stand p l e R s m args below meth c T locs cells slots) {v : Option Value} (hv : meth.sig.returnType = none → v = none) (hlocks : meth.locks = false) (hc : cells ≤ kc) (hs : slots ≤ ks) {A : State}
    (h : ∀ fs : List Frame, (∀ (f : JFrame) (acts : List Action), f.method = m → f.locked = none → f.entered = [] → (doReturn e (T.setTop f) acts v).1 = T.setFrames fs) → Steps p.tables e below A (T.setFrames fs)) (hQ : Q v T.heap locs) : own_Fin p e below s Q kc ks A := by
  obtain ⟨fs, hr, hrun, hended, hW, hsame⟩ := X.leave (v := v) hv hlocks
  exact ⟨_, _, h fs hr, hrun, hended, _, _, rfl, hQ, ⟨_, rfl⟩, hW, hsame.mono hc hs⟩
theorem own_retN (X : Stand p l e R s m args below meth c T locs cells slots) (hx : p.tables.exec = Jvm.exec) {pc : Nat} {Ls : Array Slot} {z w : Int32} {t : FieldType} {rest : List Value} (hret : meth.sig.returnType = some t) (ht : t = .boolean ∨ t = .byte ∨ t = .char ∨ t = .short)
    (hd : decode c.code pc = .ok (.ireturn, 1)) (hlocks : meth.locks = false) (hw : nar t z = w) (hc : cells ≤ kc) (hs : slots ≤ ks) (hQ : Q (some (.int w)) T.heap locs) : own_Fin p e below s Q kc ks (T.setTop (mkF m pc Ls (.int z :: rest))) :=
  own_end X (v := some (.int w)) (fun h => by rw [hret] at h; cases h) hlocks hc hs (fun fs hr => retN X hx hret ht hd (by rw [hw]; exact hr)) hQ
theorem own_retI (X : Stand p l e R s m args below meth c T locs cells slots) (hx : p.tables.exec = Jvm.exec) {pc : Nat} {Ls : Array Slot} {z : Int32} {rest : List Value} (hret : meth.sig.returnType = some .int)
    (hd : decode c.code pc = .ok (.ireturn, 1)) (hlocks : meth.locks = false) (hc : cells ≤ kc) (hs : slots ≤ ks) (hQ : Q (some (.int z)) T.heap locs) : own_Fin p e below s Q kc ks (T.setTop (mkF m pc Ls (.int z :: rest))) :=
  own_end X (v := some (.int z)) (fun h => by rw [hret] at h; cases h) hlocks hc hs (fun fs hr => retI X hx hret hd hr) hQ
theorem own_retJ (X : Stand p l e R s m args below meth c T locs cells slots) (hx : p.tables.exec = Jvm.exec) {pc : Nat} {Ls : Array Slot} {z : Int64} (hret : meth.sig.returnType = some .long)
    (hd : decode c.code pc = .ok (.lreturn, 1)) (hlocks : meth.locks = false) (hc : cells ≤ kc) (hs : slots ≤ ks) (hQ : Q (some (.long z)) T.heap locs) : own_Fin p e below s Q kc ks (T.setTop (mkF m pc Ls [.long z])) :=
  own_end X (v := some (.long z)) (fun h => by rw [hret] at h; cases h) hlocks hc hs (fun fs hr => X.lreturnOut hx hret hd hr) hQ
theorem own_retA (X : Stand p l e R s m args below meth c T locs cells slots) (hx : p.tables.exec = Jvm.exec) {pc : Nat} {Ls : Array Slot} {a : Addr} {t : FieldType} {rest : List Value} (hret : meth.sig.returnType = some t) (ht : t.isReference = true)
    (hd : decode c.code pc = .ok (.areturn, 1)) (hlocks : meth.locks = false) (hc : cells ≤ kc) (hs : slots ≤ ks) (hQ : Q (some (.ref a)) T.heap locs) : own_Fin p e below s Q kc ks (T.setTop (mkF m pc Ls (.ref a :: rest))) :=
  own_end X (v := some (.ref a)) (fun h => by rw [hret] at h; cases h) hlocks hc hs (fun fs hr => retOut X hx hret (by cases t <;> first | rfl | (simp [FieldType.isReference] at ht)) (Or.inr (Or.inr (Or.inr (Or.inr ⟨rfl, ht, rfl⟩)))) hd hr) hQ
theorem own_ret0 (X : Stand p l e R s m args below meth c T locs cells slots) (hx : p.tables.exec = Jvm.exec) {pc : Nat} {Ls : Array Slot} (hret : meth.sig.returnType = none)
    (hd : decode c.code pc = .ok (.return_, 1)) (hlocks : meth.locks = false) (hc : cells ≤ kc) (hs : slots ≤ ks) (hQ : Q none T.heap locs) : own_Fin p e below s Q kc ks (T.setTop (mkF m pc Ls [])) :=
  own_end X (v := none) (fun _ => rfl) hlocks hc hs (fun fs hr => X.returnOut hx hret hd hr) hQ
end OwnRet
theorem own_selp {s : State} {args args' : Array Value} {C : String} {y w : MethodName} (hw : (Jvm.Cond.selects C w w).before args s = true) (hcls : w.cls = y.cls) (hpriv : s.PrivateAt y) (hinst : (Jvm.Cond.instanceMethod y).before args s = true) (hy : y.cls ≠ "java/lang/invoke/MethodHandle" ∧ y.cls ≠ "java/lang/invoke/VarHandle") : (Jvm.Cond.selects y.cls y y).before args' s = true := by
  obtain ⟨c2, r2, m2, -, -, q3, -, kP, hkP, hkPi⟩ := Cond.selects_spec hw
  exact selects_self_of_private (by rw [← hcls]; exact findClass_of_methodNamed q3) hkP hkPi hpriv hinst hy
def own_make (e c : Int32) : Int64 := ((e.toInt64 <<< ((32 : Int32) &&& 0x3f).toInt64) ||| (c.toInt64 &&& (4294967295 : Int64)))
def own_epoch (z : Int64) : Int64 := ((z.toUInt64 >>> ((32 : Int32) &&& 0x3f).toInt64.toUInt64).toInt64)
def own_follows (z p : Int64) : Int32 := if z = p + 1 then 1 else if own_epoch p < own_epoch z then (if (z &&& 4294967295) = 1 then 1 else 0) else 0
def own_ba (e1 e2 c1 c2 : Int32) : Int32 := if e1 = e2 then (if c2 = -1 then 0 else if c1 = c2 + 1 then 1 else 0) else 0
def own_bb (e1 e2 c1 c2 : Int32) : Int32 := if c2 = -1 then (if c1 = 0 then (if e1 = e2 + 1 then 1 else 0) else 0) else 0
def own_bc (e1 e2 c1 : Int32) : Int32 := if (e2 ^^^ (-2147483648 : Int32)) < (e1 ^^^ (-2147483648 : Int32)) then (if c1 = 1 then 1 else 0) else 0
def own_ex (b1 b2 b3 : Int32) : Int32 := if b1 = 0 then (if b2 = 0 then (if b3 = 0 then 0 else 1) else 1) else 1
theorem own_make_int (e c : Int32) : (own_make e c).toInt = e.toInt * 4294967296 + c.toInt % 4294967296 := by
  have h1 := c_lshl e.toInt64 32 32 (by decide)
  have h2 := c_maskL c.toInt64 4294967295 32 (by decide) (by decide)
  have h3 := c_i2l e
  have h4 := c_i2l c
  have r1 := rng64 (e.toInt64 <<< ((32 : Int32) &&& 0x3f).toInt64)
  have r2 := rng32 e
  have r3 := rng64 (own_make e c)
  have h5 := c_orL (e.toInt64 <<< ((32 : Int32) &&& 0x3f).toInt64) (c.toInt64 &&& (4294967295 : Int64)) 32 (by decide) 4294967296 (by decide) (by omega) (by omega) (by omega)
  change ((own_make e c).toInt - _) % _ = _ at h5
  omega
theorem own_xm (n : Nat) (h : n < 4294967296) : (n < 2147483648 → n ^^^ 2147483648 = n + 2147483648) ∧ (2147483648 ≤ n → n ^^^ 2147483648 = n - 2147483648) := by
  have h1 := Nat.xor_div_two_pow (a := n) (b := 2147483648) (n := 31)
  have h2 := Nat.xor_mod_two_pow (a := n) (b := 2147483648) (n := 31)
  have e1 : (2147483648 : Nat) / 2 ^ 31 = 1 := by decide
  have e2 : (2147483648 : Nat) % 2 ^ 31 = 0 := by decide
  rw [e1] at h1
  rw [e2, Nat.xor_zero] at h2
  have e3 : (2 : Nat) ^ 31 = 2147483648 := by decide
  rw [e3] at h1 h2
  refine ⟨fun q => ?_, fun q => ?_⟩
  · have e4 : n / 2147483648 = 0 := by omega
    rw [e4] at h1
    have e5 : 0 ^^^ 1 = 1 := by decide
    omega
  · have e4 : n / 2147483648 = 1 := by omega
    rw [e4] at h1
    have e5 : 1 ^^^ 1 = 0 := by decide
    omega
theorem own_xmin (e : Int32) : (0 ≤ e.toInt → (e ^^^ (-2147483648 : Int32)).toInt = e.toInt - 2147483648) ∧ (e.toInt < 0 → (e ^^^ (-2147483648 : Int32)).toInt = e.toInt + 2147483648) := by
  have h0 : (e ^^^ (-2147483648 : Int32)).toBitVec.toNat = e.toBitVec.toNat ^^^ 2147483648 := by
    rw [Int32.toBitVec_xor, BitVec.toNat_xor]; rfl
  have h1 : (e ^^^ (-2147483648 : Int32)).toInt = ((e ^^^ (-2147483648 : Int32)).toBitVec).toInt := rfl
  have h2 : e.toInt = e.toBitVec.toInt := rfl
  have b := e.toBitVec.isLt
  have x := own_xm e.toBitVec.toNat (by omega)
  rw [h1, h2, BitVec.toInt_eq_toNat_cond, BitVec.toInt_eq_toNat_cond, h0]
  generalize e.toBitVec.toNat = n at *
  generalize n ^^^ 2147483648 = k at *
  have e32 : (2 : Nat) ^ 32 = 4294967296 := by decide
  rw [e32]
  refine ⟨fun q => ?_, fun q => ?_⟩ <;> split at q <;> split <;> omega
theorem own_one {P : Prop} [Decidable P] : (if P then (1 : Int32) else 0) = 0 ↔ ¬ P := by by_cases h : P <;> simp [h]
theorem own_f' (z p : Int64) : own_follows z p = if (z = p + 1 ∨ own_epoch p < own_epoch z ∧ (z &&& 4294967295) = 1) then 1 else 0 := by
  unfold own_follows
  by_cases h1 : z = p + 1 <;> by_cases h2 : own_epoch p < own_epoch z <;> by_cases h3 : (z &&& 4294967295) = 1 <;> simp [h1, h2, h3]
theorem own_a' (e1 e2 c1 c2 : Int32) : own_ba e1 e2 c1 c2 = if (e1 = e2 ∧ ¬ c2 = -1 ∧ c1 = c2 + 1) then 1 else 0 := by
  unfold own_ba
  by_cases h1 : e1 = e2 <;> by_cases h2 : c2 = -1 <;> by_cases h3 : c1 = c2 + 1 <;> simp only [h1, h2, h3, if_true, if_false, true_and, false_and, and_true, and_false, not_true, not_false_eq_true]
theorem own_b' (e1 e2 c1 c2 : Int32) : own_bb e1 e2 c1 c2 = if (c2 = -1 ∧ c1 = 0 ∧ e1 = e2 + 1) then 1 else 0 := by
  unfold own_bb
  by_cases h1 : c2 = -1 <;> by_cases h2 : c1 = 0 <;> by_cases h3 : e1 = e2 + 1 <;> simp only [h1, h2, h3, if_true, if_false, true_and, false_and, and_true, and_false, not_true, not_false_eq_true]
theorem own_c' (e1 e2 c1 : Int32) : own_bc e1 e2 c1 = if ((e2 ^^^ (-2147483648 : Int32)) < (e1 ^^^ (-2147483648 : Int32)) ∧ c1 = 1) then 1 else 0 := by
  unfold own_bc
  by_cases h1 : (e2 ^^^ (-2147483648 : Int32)) < (e1 ^^^ (-2147483648 : Int32)) <;> by_cases h2 : c1 = 1 <;> simp only [h1, h2, if_true, if_false, true_and, false_and, and_true, and_false]
theorem own_ex' {P Q R : Prop} [Decidable P] [Decidable Q] [Decidable R] : own_ex (if P then 1 else 0) (if Q then 1 else 0) (if R then 1 else 0) = if (P ∨ Q ∨ R) then 1 else 0 := by
  unfold own_ex
  by_cases h1 : P <;> by_cases h2 : Q <;> by_cases h3 : R <;> simp [h1, h2, h3]
theorem own_k1 (e1 e2 c1 c2 z q q1 c21 e21 : Int) (r1 : -2147483648 ≤ e1 ∧ e1 < 2147483648) (r2 : -2147483648 ≤ e2 ∧ e2 < 2147483648) (r3 : -2147483648 ≤ c1 ∧ c1 < 2147483648) (r4 : -2147483648 ≤ c2 ∧ c2 < 2147483648)
    (m1 : z = e1 * 4294967296 + c1 % 4294967296) (m2 : q = e2 * 4294967296 + c2 % 4294967296) (a1 : (q1 - (q + 1)) % 18446744073709551616 = 0) (a2 : -9223372036854775808 ≤ q1 ∧ q1 < 9223372036854775808)
    (a3 : (c21 - (c2 + 1)) % 4294967296 = 0) (a4 : -2147483648 ≤ c21 ∧ c21 < 2147483648) (a5 : (e21 - (e2 + 1)) % 4294967296 = 0) (a6 : -2147483648 ≤ e21 ∧ e21 < 2147483648) :
    z = q1 ↔ ((e1 = e2 ∧ ¬ c2 = -1 ∧ c1 = c21) ∨ (c2 = -1 ∧ c1 = 0 ∧ e1 = e21)) := by
  by_cases h : c2 = -1
  · subst h
    have m3 : q + 1 = (e2 + 1) * 4294967296 := by omega
    by_cases h2 : e2 = 2147483647
    · subst h2
      have e : e21 = -2147483648 := by omega
      have q' : q1 = -9223372036854775808 := by omega
      subst e q'
      constructor
      · intro k; right; refine ⟨rfl, ?_, ?_⟩ <;> omega
      · rintro (⟨_, k, _⟩ | ⟨_, k1, k2⟩)
        · exact absurd rfl k
        · omega
    · have e : e21 = e2 + 1 := by omega
      have q' : q1 = q + 1 := by omega
      subst e q'
      constructor
      · intro k; right; refine ⟨rfl, ?_, ?_⟩ <;> omega
      · rintro (⟨_, k, _⟩ | ⟨_, k1, k2⟩)
        · exact absurd rfl k
        · omega
  · have g : c2 % 4294967296 ≤ 4294967294 := by omega
    have q' : q1 = q + 1 := by omega
    subst q'
    constructor
    · intro k; left; refine ⟨?_, h, ?_⟩ <;> omega
    · rintro (⟨k1, _, k2⟩ | ⟨k, _, _⟩)
      · subst k1 k2; omega
      · exact absurd k h
theorem own_xmin2 (e : Int32) : (e ^^^ (-2147483648 : Int32)).toInt = e.toInt % 4294967296 - 2147483648 := by
  have x1 := own_xmin e
  have r1 := rng32 e
  by_cases h : 0 ≤ e.toInt
  · rw [x1.1 h]; omega
  · rw [x1.2 (by omega)]; omega
theorem own_v1 (z e c : Int) (r : -2147483648 ≤ e ∧ e < 2147483648) (m : z = e * 4294967296 + c % 4294967296) : (z % 18446744073709551616) / 4294967296 = e % 4294967296 := by omega
theorem own_c1 (c : Int) (r : -2147483648 ≤ c ∧ c < 2147483648) : c % 4294967296 = (1 : Int64).toInt ↔ c = (1 : Int32).toInt := by
  show c % 4294967296 = 1 ↔ c = 1
  omega
theorem own_v3 (z e c : Int) (m : z = e * 4294967296 + c % 4294967296) : z % 4294967296 = c % 4294967296 := by omega
theorem own_plain (e1 e2 c1 c2 : Int32) : own_follows (own_make e1 c1) (own_make e2 c2) = own_ex (own_ba e1 e2 c1 c2) (own_bb e1 e2 c1 c2) (own_bc e1 e2 c1) := by
  rw [own_f', own_a', own_b', own_c', own_ex']
  have m1 := own_make_int e1 c1
  have m2 := own_make_int e2 c2
  have r1 := rng32 e1
  have r2 := rng32 e2
  have r3 := rng32 c1
  have r4 := rng32 c2
  have u1 : (own_epoch (own_make e1 c1)).toInt = ((own_make e1 c1).toInt % 18446744073709551616) / (2 ^ 32 : Nat) := c_lushr (own_make e1 c1) 32 32 (by decide) (by decide)
  have u2 : (own_epoch (own_make e2 c2)).toInt = ((own_make e2 c2).toInt % 18446744073709551616) / (2 ^ 32 : Nat) := c_lushr (own_make e2 c2) 32 32 (by decide) (by decide)
  have u3 := c_maskL (own_make e1 c1) 4294967295 32 (by decide) (by decide)
  have k1 := own_k1 e1.toInt e2.toInt c1.toInt c2.toInt _ _ (own_make e2 c2 + 1).toInt (c2 + 1).toInt (e2 + 1).toInt r1 r2 r3 r4 m1 m2 (c_ladd (own_make e2 c2) 1) (rng64 _) (c_iadd c2 1) (rng32 _) (c_iadd e2 1) (rng32 _)
  have v1 : (own_epoch (own_make e1 c1)).toInt = e1.toInt % 4294967296 := u1.trans (own_v1 _ _ _ r1 m1)
  have v2 : (own_epoch (own_make e2 c2)).toInt = e2.toInt % 4294967296 := u2.trans (own_v1 _ _ _ r2 m2)
  have v3 : ((own_make e1 c1) &&& 4294967295).toInt = c1.toInt % 4294967296 := u3.trans (own_v3 _ _ _ m1)
  have w1 : (e1 ^^^ (-2147483648 : Int32)).toInt = e1.toInt % 4294967296 - 2147483648 := own_xmin2 e1
  have w2 : (e2 ^^^ (-2147483648 : Int32)).toInt = e2.toInt % 4294967296 - 2147483648 := own_xmin2 e2
  have key : (own_make e1 c1 = own_make e2 c2 + 1 ∨ own_epoch (own_make e2 c2) < own_epoch (own_make e1 c1) ∧ (own_make e1 c1 &&& 4294967295) = 1) ↔ ((e1 = e2 ∧ ¬ c2 = -1 ∧ c1 = c2 + 1) ∨ (c2 = -1 ∧ c1 = 0 ∧ e1 = e2 + 1) ∨ ((e2 ^^^ (-2147483648 : Int32)) < (e1 ^^^ (-2147483648 : Int32)) ∧ c1 = 1)) := by
    rw [← or_assoc]
    have A : (own_make e1 c1 = own_make e2 c2 + 1) ↔ ((e1 = e2 ∧ ¬ c2 = -1 ∧ c1 = c2 + 1) ∨ (c2 = -1 ∧ c1 = 0 ∧ e1 = e2 + 1)) := by
      simp only [← Int64.toInt_inj, ← Int32.toInt_inj]
      exact k1
    have B : (own_epoch (own_make e2 c2) < own_epoch (own_make e1 c1)) ↔ ((e2 ^^^ (-2147483648 : Int32)) < (e1 ^^^ (-2147483648 : Int32))) := by
      rw [Int64.lt_iff_toInt_lt, Int32.lt_iff_toInt_lt, v1, v2, w1, w2]; exact (Int.sub_lt_sub_right_iff ..).symm
    have C : ((own_make e1 c1 &&& 4294967295) = 1) ↔ c1 = 1 := by
      rw [← Int64.toInt_inj, ← Int32.toInt_inj, v3]
      exact own_c1 _ r3
    rw [A, B, C]
  simp only [key]
theorem own_dmk_0 : decode method_2_code 0 = .ok (.iload_n 0, 1) := by decide +kernel
theorem own_dmk_1 : decode method_2_code 1 = .ok (.i2l, 1) := by decide +kernel
theorem own_dmk_2 : decode method_2_code 2 = .ok (.bipush 32, 2) := by decide +kernel
theorem own_dmk_4 : decode method_2_code 4 = .ok (.lshl, 1) := by decide +kernel
theorem own_dmk_5 : decode method_2_code 5 = .ok (.iload_n 1, 1) := by decide +kernel
theorem own_dmk_6 : decode method_2_code 6 = .ok (.i2l, 1) := by decide +kernel
theorem own_dmk_7 : decode method_2_code 7 = .ok (.ldc2_w 7, 3) := by decide +kernel
theorem own_dmk_10 : decode method_2_code 10 = .ok (.land, 1) := by decide +kernel
theorem own_dmk_11 : decode method_2_code 11 = .ok (.lor, 1) := by decide +kernel
theorem own_dmk_12 : decode method_2_code 12 = .ok (.lreturn, 1) := by decide +kernel
theorem own_pn0 : plainName "com/example/stentor/stentor/server/ZxidsFollowsPinLaw" = true := by first | (simp [plainName, overriddenIn]; done) | decide +kernel
theorem own_ef_mk (m : MethodId) (va : Int32) (vb : Int32) : entryFrame m #[(.int va), (.int vb)] 2 = mkF m 0 #[.val (.int va), .val (.int vb)] [] := by first | (simp [entryFrame, mkF, argsToLocals, Value.category]; done) | rfl
def own_Q_mk (Z : State) (va : Int32) (vb : Int32) (h0 : Heap) (n0 : Nat) (v : Option Value) (h : Heap) (L : List Loc) : Prop := v = some (.long (own_make va vb)) ∧ Fr n0 L ∧ h = h0
set_option maxRecDepth 65536 in
set_option maxHeartbeats 40000000 in
theorem own_rm_mk (l : Launch) (Z : State) (a0 : Array Value) (hw : ∀ d ∈ tables_1, d.before a0 Z = true) (ws : List Jvm.Cond) (va : Int32) (vb : Int32) (h0 : Heap) (n0 : Nat) (Z0 : n0 ≤ h0.size) :
    MetFree l (⟨"com/example/stentor/stentor/server/ZxidsFollowsPinLaw", "make", "(II)J"⟩ : MethodName) (head1 (Jvm.Cond.code (⟨"com/example/stentor/stentor/server/ZxidsFollowsPinLaw", "make", "(II)J"⟩ : MethodName) method_2_code 2 (some .long) :: ws) ({ frames := 0, cells := 0, slots := 0, locals := 0 } : Room)) (fun a U => a = #[(.int va), (.int vb)] ∧ Z.Warmed39 U.vm ∧ U.heap = h0) (fun _ _ _ _ _ => True) (fun _ U o U' => ∃ v L, o = .returned v ∧ own_Q_mk Z va vb h0 n0 v U'.heap L ∧ FrameEnd U o U' L ({ frames := 0, cells := 0, slots := 0, locals := 0 } : Room).cells ({ frames := 0, cells := 0, slots := 0, locals := 0 } : Room).slots) := by
  refine MetFree.of_bodySF (plainFor_of_name own_pn0) hisR ?_
  intro p e s m args below meth c s₁ Bd hml0 hP hK
  obtain ⟨rfl, hZ, hh⟩ := hP
  have hx := Bd.exec
  have hby := Bd.bytes
  have hml : c.maxLocals = 2 := hml0
  have hown : s.vm.findClass "com/example/stentor/stentor/server/ZxidsFollowsPinLaw" = some m.cls := findClass_of_methodNamed Bd.named
  have hnm := (name_of_methodNamed Bd.named Bd.method).1
  have X0 : Stand p l e ({ frames := 0, cells := 0, slots := 0, locals := 0 } : Room) s m #[(.int va), (.int vb)] below meth c s₁ [] 0 0 := Stand.of_body Bd
  have e0 : s₁.heap = h0 := by rw [← hh, Bd.state]; rfl
  have N0 := Fr.nil n0
  show own_Fin p e below s (own_Q_mk Z va vb h0 n0) ({ frames := 0, cells := 0, slots := 0, locals := 0 } : Room).cells ({ frames := 0, cells := 0, slots := 0, locals := 0 } : Room).slots (s₁.setTop (entryFrame m #[(.int va), (.int vb)] 2))
  refine own_Fin.go (fun t k => castTop (own_ef_mk m va vb) k) ?_
  refine own_Fin.go (fun t k => XS.iloadN X0.here hx rfl (hb hby own_dmk_0) rfl k) ?_
  show own_Fin _ _ _ _ _ _ _ (s₁.setTop (mkF m 1 #[.val (.int va), .val (.int vb)] [(.int va)]))
  refine own_Fin.go (fun t k => XS.i2l X0.here hx rfl (hb hby own_dmk_1) rfl k) ?_
  show own_Fin _ _ _ _ _ _ _ (s₁.setTop (mkF m 2 #[.val (.int va), .val (.int vb)] [(.long (va.toInt64))]))
  refine own_Fin.go (fun t k => XS.bipush X0.here hx rfl (hb hby own_dmk_2) k) ?_
  show own_Fin _ _ _ _ _ _ _ (s₁.setTop (mkF m 4 #[.val (.int va), .val (.int vb)] [(.int (32 : Int32)), (.long (va.toInt64))]))
  refine own_Fin.go (fun t k => XS.lshl X0.here hx rfl (hb hby own_dmk_4) rfl k) ?_
  show own_Fin _ _ _ _ _ _ _ (s₁.setTop (mkF m 5 #[.val (.int va), .val (.int vb)] [(.long ((va.toInt64) <<< ((32 : Int32) &&& 0x3f).toInt64))]))
  refine own_Fin.go (fun t k => XS.iloadN X0.here hx rfl (hb hby own_dmk_5) rfl k) ?_
  show own_Fin _ _ _ _ _ _ _ (s₁.setTop (mkF m 6 #[.val (.int va), .val (.int vb)] [(.int vb), (.long ((va.toInt64) <<< ((32 : Int32) &&& 0x3f).toInt64))]))
  refine own_Fin.go (fun t k => XS.i2l X0.here hx rfl (hb hby own_dmk_6) rfl k) ?_
  show own_Fin _ _ _ _ _ _ _ (s₁.setTop (mkF m 7 #[.val (.int va), .val (.int vb)] [(.long (vb.toInt64)), (.long ((va.toInt64) <<< ((32 : Int32) &&& 0x3f).toInt64))]))
  refine own_Fin.go (fun t k => X0.ldc2Long hx hown (mvT hZ (hw _ (List.mem_of_getElem? (i := 4) rfl))) (g := (mkF m 7 #[.val (.int va), .val (.int vb)] [(.long (vb.toInt64)), (.long ((va.toInt64) <<< ((32 : Int32) &&& 0x3f).toInt64))])) rfl (hb hby own_dmk_7) t k) ?_
  show own_Fin _ _ _ _ _ _ _ (s₁.setTop (mkF m 10 #[.val (.int va), .val (.int vb)] [(.long (4294967295 : Int64)), (.long (vb.toInt64)), (.long ((va.toInt64) <<< ((32 : Int32) &&& 0x3f).toInt64))]))
  refine own_Fin.go (fun t k => XS.land X0.here hx rfl (hb hby own_dmk_10) rfl k) ?_
  show own_Fin _ _ _ _ _ _ _ (s₁.setTop (mkF m 11 #[.val (.int va), .val (.int vb)] [(.long ((vb.toInt64) &&& (4294967295 : Int64))), (.long ((va.toInt64) <<< ((32 : Int32) &&& 0x3f).toInt64))]))
  refine own_Fin.go (fun t k => XS.lor X0.here hx rfl (hb hby own_dmk_11) rfl k) ?_
  show own_Fin _ _ _ _ _ _ _ (s₁.setTop (mkF m 12 #[.val (.int va), .val (.int vb)] [(.long (((va.toInt64) <<< ((32 : Int32) &&& 0x3f).toInt64) ||| ((vb.toInt64) &&& (4294967295 : Int64))))]))
  refine own_retJ X0 hx Bd.returns (hb hby own_dmk_12) Bd.notSynchronized (by decide) (by decide) ?_
  rw [e0]
  exact ⟨rfl, N0, rfl⟩
theorem own_dep_0 : decode prog_94_method_2_code 0 = .ok (.lload_n 0, 1) := by decide +kernel
theorem own_dep_1 : decode prog_94_method_2_code 1 = .ok (.bipush 32, 2) := by decide +kernel
theorem own_dep_3 : decode prog_94_method_2_code 3 = .ok (.lushr, 1) := by decide +kernel
theorem own_dep_4 : decode prog_94_method_2_code 4 = .ok (.lreturn, 1) := by decide +kernel
theorem own_pn1 : plainName "com/example/stentor/stentor/server/Zxids" = true := by first | (simp [plainName, overriddenIn]; done) | decide +kernel
theorem own_ef_ep (m : MethodId) (va : Int64) : entryFrame m #[(.long va)] 2 = mkF m 0 #[.val (.long va), .second] [] := by first | (simp [entryFrame, mkF, argsToLocals, Value.category]; done) | rfl
def own_Q_ep (Z : State) (va : Int64) (h0 : Heap) (n0 : Nat) (v : Option Value) (h : Heap) (L : List Loc) : Prop := v = some (.long (own_epoch va)) ∧ Fr n0 L ∧ h = h0
set_option maxRecDepth 65536 in
set_option maxHeartbeats 40000000 in
theorem own_rm_ep (l : Launch) (Z : State) (a0 : Array Value) (hw : ∀ d ∈ tables_1, d.before a0 Z = true) (ws : List Jvm.Cond) (va : Int64) (h0 : Heap) (n0 : Nat) (Z0 : n0 ≤ h0.size) :
    MetFree l (⟨"com/example/stentor/stentor/server/Zxids", "epoch", "(J)J"⟩ : MethodName) (head1 (Jvm.Cond.code (⟨"com/example/stentor/stentor/server/Zxids", "epoch", "(J)J"⟩ : MethodName) prog_94_method_2_code 2 (some .long) :: ws) ({ frames := 0, cells := 0, slots := 0, locals := 0 } : Room)) (fun a U => a = #[(.long va)] ∧ Z.Warmed39 U.vm ∧ U.heap = h0) (fun _ _ _ _ _ => True) (fun _ U o U' => ∃ v L, o = .returned v ∧ own_Q_ep Z va h0 n0 v U'.heap L ∧ FrameEnd U o U' L ({ frames := 0, cells := 0, slots := 0, locals := 0 } : Room).cells ({ frames := 0, cells := 0, slots := 0, locals := 0 } : Room).slots) := by
  refine MetFree.of_bodySF (plainFor_of_name own_pn1) hisR ?_
  intro p e s m args below meth c s₁ Bd hml0 hP hK
  obtain ⟨rfl, hZ, hh⟩ := hP
  have hx := Bd.exec
  have hby := Bd.bytes
  have hml : c.maxLocals = 2 := hml0
  have hown : s.vm.findClass "com/example/stentor/stentor/server/Zxids" = some m.cls := findClass_of_methodNamed Bd.named
  have hnm := (name_of_methodNamed Bd.named Bd.method).1
  have X0 : Stand p l e ({ frames := 0, cells := 0, slots := 0, locals := 0 } : Room) s m #[(.long va)] below meth c s₁ [] 0 0 := Stand.of_body Bd
  have e0 : s₁.heap = h0 := by rw [← hh, Bd.state]; rfl
  have N0 := Fr.nil n0
  show own_Fin p e below s (own_Q_ep Z va h0 n0) ({ frames := 0, cells := 0, slots := 0, locals := 0 } : Room).cells ({ frames := 0, cells := 0, slots := 0, locals := 0 } : Room).slots (s₁.setTop (entryFrame m #[(.long va)] 2))
  refine own_Fin.go (fun t k => castTop (own_ef_ep m va) k) ?_
  refine own_Fin.go (fun t k => XS.lloadN X0.here hx rfl (hb hby own_dep_0) rfl k) ?_
  show own_Fin _ _ _ _ _ _ _ (s₁.setTop (mkF m 1 #[.val (.long va), .second] [(.long va)]))
  refine own_Fin.go (fun t k => XS.bipush X0.here hx rfl (hb hby own_dep_1) k) ?_
  show own_Fin _ _ _ _ _ _ _ (s₁.setTop (mkF m 3 #[.val (.long va), .second] [(.int (32 : Int32)), (.long va)]))
  refine own_Fin.go (fun t k => XS.lushr X0.here hx rfl (hb hby own_dep_3) rfl k) ?_
  show own_Fin _ _ _ _ _ _ _ (s₁.setTop (mkF m 4 #[.val (.long va), .second] [(.long ((va.toUInt64 >>> ((32 : Int32) &&& 0x3f).toInt64.toUInt64).toInt64))]))
  refine own_retJ X0 hx Bd.returns (hb hby own_dep_4) Bd.notSynchronized (by decide) (by decide) ?_
  rw [e0]
  exact ⟨rfl, N0, rfl⟩
theorem own_pd0 : parseMethodDescriptor "(J)J" = some ⟨[.long], some .long⟩ := by decide +kernel
theorem own_dfo_0 : decode prog_94_method_4_code 0 = .ok (.lload_n 0, 1) := by decide +kernel
theorem own_dfo_1 : decode prog_94_method_4_code 1 = .ok (.lload_n 2, 1) := by decide +kernel
theorem own_dfo_2 : decode prog_94_method_4_code 2 = .ok (.lconst 1, 1) := by decide +kernel
theorem own_dfo_3 : decode prog_94_method_4_code 3 = .ok (.ladd, 1) := by decide +kernel
theorem own_dfo_4 : decode prog_94_method_4_code 4 = .ok (.lcmp, 1) := by decide +kernel
theorem own_dfo_5 : decode prog_94_method_4_code 5 = .ok (.ifCond .eq 25, 3) := by decide +kernel
theorem own_dfo_8 : decode prog_94_method_4_code 8 = .ok (.lload_n 0, 1) := by decide +kernel
theorem own_dfo_9 : decode prog_94_method_4_code 9 = .ok (.invokestatic 9, 3) := by decide +kernel
theorem own_dfo_12 : decode prog_94_method_4_code 12 = .ok (.lload_n 2, 1) := by decide +kernel
theorem own_dfo_13 : decode prog_94_method_4_code 13 = .ok (.invokestatic 9, 3) := by decide +kernel
theorem own_dfo_16 : decode prog_94_method_4_code 16 = .ok (.lcmp, 1) := by decide +kernel
theorem own_dfo_17 : decode prog_94_method_4_code 17 = .ok (.ifCond .le 17, 3) := by decide +kernel
theorem own_dfo_20 : decode prog_94_method_4_code 20 = .ok (.lload_n 0, 1) := by decide +kernel
theorem own_dfo_21 : decode prog_94_method_4_code 21 = .ok (.ldc2_w 15, 3) := by decide +kernel
theorem own_dfo_24 : decode prog_94_method_4_code 24 = .ok (.land, 1) := by decide +kernel
theorem own_dfo_25 : decode prog_94_method_4_code 25 = .ok (.lconst 1, 1) := by decide +kernel
theorem own_dfo_26 : decode prog_94_method_4_code 26 = .ok (.lcmp, 1) := by decide +kernel
theorem own_dfo_27 : decode prog_94_method_4_code 27 = .ok (.ifCond .ne 7, 3) := by decide +kernel
theorem own_dfo_30 : decode prog_94_method_4_code 30 = .ok (.iconst 1, 1) := by decide +kernel
theorem own_dfo_31 : decode prog_94_method_4_code 31 = .ok (.goto 4, 3) := by decide +kernel
theorem own_dfo_34 : decode prog_94_method_4_code 34 = .ok (.iconst 0, 1) := by decide +kernel
theorem own_dfo_35 : decode prog_94_method_4_code 35 = .ok (.ireturn, 1) := by decide +kernel
theorem own_ef_fo (m : MethodId) (va : Int64) (vb : Int64) : entryFrame m #[(.long va), (.long vb)] 4 = mkF m 0 #[.val (.long va), .second, .val (.long vb), .second] [] := by first | (simp [entryFrame, mkF, argsToLocals, Value.category]; done) | rfl
def own_Q_fo (Z : State) (va : Int64) (vb : Int64) (h0 : Heap) (n0 : Nat) (v : Option Value) (h : Heap) (L : List Loc) : Prop := v = some (.int (own_follows va vb)) ∧ Fr n0 L ∧ h = h0
set_option maxRecDepth 65536 in
set_option maxHeartbeats 40000000 in
theorem own_rm_fo (l : Launch) (Z : State) (a0 : Array Value) (hw : ∀ d ∈ tables_1, d.before a0 Z = true) (ws : List Jvm.Cond) (va : Int64) (vb : Int64) (h0 : Heap) (n0 : Nat) (Z0 : n0 ≤ h0.size) :
    MetFree l (⟨"com/example/stentor/stentor/server/Zxids", "follows", "(JJ)Z"⟩ : MethodName) (head1 (Jvm.Cond.code (⟨"com/example/stentor/stentor/server/Zxids", "follows", "(JJ)Z"⟩ : MethodName) prog_94_method_4_code 4 (some .boolean) :: ws) ({ frames := 1, cells := 0, slots := 0, locals := 15 } : Room)) (fun a U => a = #[(.long va), (.long vb)] ∧ Z.Warmed39 U.vm ∧ U.heap = h0) (fun _ _ _ _ _ => True) (fun _ U o U' => ∃ v L, o = .returned v ∧ own_Q_fo Z va vb h0 n0 v U'.heap L ∧ FrameEnd U o U' L ({ frames := 1, cells := 0, slots := 0, locals := 15 } : Room).cells ({ frames := 1, cells := 0, slots := 0, locals := 15 } : Room).slots) := by
  refine MetFree.of_bodySF (plainFor_of_name own_pn1) hisR ?_
  intro p e s m args below meth c s₁ Bd hml0 hP hK
  obtain ⟨rfl, hZ, hh⟩ := hP
  have hx := Bd.exec
  have hby := Bd.bytes
  have hml : c.maxLocals = 4 := hml0
  have hown : s.vm.findClass "com/example/stentor/stentor/server/Zxids" = some m.cls := findClass_of_methodNamed Bd.named
  have hnm := (name_of_methodNamed Bd.named Bd.method).1
  have X0 : Stand p l e ({ frames := 1, cells := 0, slots := 0, locals := 15 } : Room) s m #[(.long va), (.long vb)] below meth c s₁ [] 0 0 := Stand.of_body Bd
  have e0 : s₁.heap = h0 := by rw [← hh, Bd.state]; rfl
  have N0 := Fr.nil n0
  show own_Fin p e below s (own_Q_fo Z va vb h0 n0) ({ frames := 1, cells := 0, slots := 0, locals := 15 } : Room).cells ({ frames := 1, cells := 0, slots := 0, locals := 15 } : Room).slots (s₁.setTop (entryFrame m #[(.long va), (.long vb)] 4))
  refine own_Fin.go (fun t k => castTop (own_ef_fo m va vb) k) ?_
  refine own_Fin.go (fun t k => XS.lloadN X0.here hx rfl (hb hby own_dfo_0) rfl k) ?_
  show own_Fin _ _ _ _ _ _ _ (s₁.setTop (mkF m 1 #[.val (.long va), .second, .val (.long vb), .second] [(.long va)]))
  refine own_Fin.go (fun t k => XS.lloadN X0.here hx rfl (hb hby own_dfo_1) rfl k) ?_
  show own_Fin _ _ _ _ _ _ _ (s₁.setTop (mkF m 2 #[.val (.long va), .second, .val (.long vb), .second] [(.long vb), (.long va)]))
  refine own_Fin.go (fun t k => XS.lconst X0.here hx rfl (hb hby own_dfo_2) k) ?_
  show own_Fin _ _ _ _ _ _ _ (s₁.setTop (mkF m 3 #[.val (.long va), .second, .val (.long vb), .second] [(.long (1 : Int64)), (.long vb), (.long va)]))
  refine own_Fin.go (fun t k => XS.ladd X0.here hx rfl (hb hby own_dfo_3) rfl k) ?_
  show own_Fin _ _ _ _ _ _ _ (s₁.setTop (mkF m 4 #[.val (.long va), .second, .val (.long vb), .second] [(.long (vb + (1 : Int64))), (.long va)]))
  refine own_Fin.go (fun t k => XS.lcmp X0.here hx rfl (hb hby own_dfo_4) rfl k) ?_
  show own_Fin _ _ _ _ _ _ _ (s₁.setTop (mkF m 5 #[.val (.long va), .second, .val (.long vb), .second] [(.int (lcmpW va (vb + (1 : Int64))))]))
  by_cases hc5 : va = (vb + (1 : Int64))
  · refine own_Fin.go (fun t k => XS.ifYes X0.here hx rfl (pc0 := 5) (pc' := 30) rfl (hb hby own_dfo_5) rfl (Jvm.Free.XT.ll_eq_t hc5) (by decide) (by decide) k) ?_
    show own_Fin _ _ _ _ _ _ _ (s₁.setTop (mkF m 30 #[.val (.long va), .second, .val (.long vb), .second] []))
    refine own_Fin.go (fun t k => XS.iconst X0.here hx rfl (hb hby own_dfo_30) k) ?_
    show own_Fin _ _ _ _ _ _ _ (s₁.setTop (mkF m 31 #[.val (.long va), .second, .val (.long vb), .second] [(.int (1 : Int32))]))
    refine own_Fin.go (fun t k => XS.goto X0.here hx rfl (pc0 := 31) (pc' := 35) rfl (hb hby own_dfo_31) (by decide) (by decide) k) ?_
    show own_Fin _ _ _ _ _ _ _ (s₁.setTop (mkF m 35 #[.val (.long va), .second, .val (.long vb), .second] [(.int (1 : Int32))]))
    refine own_retN X0 hx (t := .boolean) (w := (1 : Int32)) Bd.returns (by simp) (hb hby own_dfo_35) Bd.notSynchronized rfl (by decide) (by decide) ?_
    rw [e0]
    exact ⟨by simp only [own_follows, if_pos hc5], N0, rfl⟩
  · refine own_Fin.go (fun t k => XS.ifNo X0.here hx rfl (hb hby own_dfo_5) rfl (Jvm.Free.XT.ll_eq_f hc5) k) ?_
    show own_Fin _ _ _ _ _ _ _ (s₁.setTop (mkF m 8 #[.val (.long va), .second, .val (.long vb), .second] []))
    refine own_Fin.go (fun t k => XS.lloadN X0.here hx rfl (hb hby own_dfo_8) rfl k) ?_
    show own_Fin _ _ _ _ _ _ _ (s₁.setTop (mkF m 9 #[.val (.long va), .second, .val (.long vb), .second] [(.long va)]))
    obtain ⟨_, _, ⟨T1, L1, k1, n1⟩, -, X1, ⟨Lc1, hQ1, l1, y1, z1⟩, st1⟩ := Jvm.LawKit.callS X0 hx (y := (⟨"com/example/stentor/stentor/server/Zxids", "epoch", "(J)J"⟩ : MethodName)) hown (mvT hZ (hw _ (List.mem_of_getElem? (i := 10) rfl))) (mvT hZ (hw _ (List.mem_of_getElem? (i := 11) rfl))) (mvT hZ (hw _ (List.mem_of_getElem? (i := 8) rfl))) (mvT hZ (hw _ (List.mem_of_getElem? (i := 12) rfl))) (by decide) (backOf (W := 0) (own_rm_ep l Z a0 hw [] va  h0 n0 Z0 ) hZ (hw _ (List.mem_of_getElem? (i := 12) rfl)) (hw _ (List.mem_of_getElem? (i := 8) rfl)) (by decide) (by decide)) (g := (mkF m 9 #[.val (.long va), .second, .val (.long vb), .second] [(.long va)])) rfl (by rw [hml]; rfl) (argsL := [(.long va)]) (rest := []) (lenOf own_pd0 rfl) rfl (by show 2 * 0 + _ ≤ _; exact Nat.le_of_eq rfl) (hb hby own_dfo_9) (fun _ _ => ⟨rfl, e0, (by decide : 0 + 0 ≤ _), (by decide : 0 + 0 ≤ _)⟩)
    dsimp only [Pt.U, Pt.locs, Pt.cells, Pt.slots] at X1 l1 y1 z1 st1 hQ1
    subst l1 y1 z1
    obtain ⟨rfl, N1q, e1⟩ := hQ1
    refine own_Fin.go (fun t k => st1 t k) ?_
    have N1 := Fr.app N0 N1q
    show own_Fin _ _ _ _ _ _ _ (T1.setTop (mkF m 12 #[.val (.long va), .second, .val (.long vb), .second] [(.long (own_epoch va))]))
    refine own_Fin.go (fun t k => XS.lloadN X1.here hx rfl (hb hby own_dfo_12) rfl k) ?_
    show own_Fin _ _ _ _ _ _ _ (T1.setTop (mkF m 13 #[.val (.long va), .second, .val (.long vb), .second] [(.long vb), (.long (own_epoch va))]))
    obtain ⟨_, _, ⟨T2, L2, k2, n2⟩, -, X2, ⟨Lc2, hQ2, l2, y2, z2⟩, st2⟩ := Jvm.LawKit.callS X1 hx (y := (⟨"com/example/stentor/stentor/server/Zxids", "epoch", "(J)J"⟩ : MethodName)) hown (mvT hZ (hw _ (List.mem_of_getElem? (i := 10) rfl))) (mvT hZ (hw _ (List.mem_of_getElem? (i := 11) rfl))) (mvT hZ (hw _ (List.mem_of_getElem? (i := 8) rfl))) (mvT hZ (hw _ (List.mem_of_getElem? (i := 12) rfl))) (by decide) (backOf (W := 2) (own_rm_ep l Z a0 hw [] vb  h0 n0 Z0 ) hZ (hw _ (List.mem_of_getElem? (i := 12) rfl)) (hw _ (List.mem_of_getElem? (i := 8) rfl)) (by decide) (by decide)) (g := (mkF m 13 #[.val (.long va), .second, .val (.long vb), .second] [(.long vb), (.long (own_epoch va))])) rfl (by rw [hml]; rfl) (argsL := [(.long vb)]) (rest := [(.long (own_epoch va))]) (lenOf own_pd0 rfl) rfl (by show 2 * 0 + _ ≤ _; exact Nat.le_of_eq rfl) (hb hby own_dfo_13) (fun _ _ => ⟨rfl, e1, (by decide : 0 + 0 ≤ _), (by decide : 0 + 0 ≤ _)⟩)
    dsimp only [Pt.U, Pt.locs, Pt.cells, Pt.slots] at X2 l2 y2 z2 st2 hQ2
    subst l2 y2 z2
    obtain ⟨rfl, N2q, e2⟩ := hQ2
    refine own_Fin.go (fun t k => st2 t k) ?_
    have N2 := Fr.app N1 N2q
    show own_Fin _ _ _ _ _ _ _ (T2.setTop (mkF m 16 #[.val (.long va), .second, .val (.long vb), .second] [(.long (own_epoch vb)), (.long (own_epoch va))]))
    refine own_Fin.go (fun t k => XS.lcmp X2.here hx rfl (hb hby own_dfo_16) rfl k) ?_
    show own_Fin _ _ _ _ _ _ _ (T2.setTop (mkF m 17 #[.val (.long va), .second, .val (.long vb), .second] [(.int (lcmpW (own_epoch va) (own_epoch vb)))]))
    by_cases hc17 : (own_epoch vb) < (own_epoch va)
    · refine own_Fin.go (fun t k => XS.ifNo X2.here hx rfl (hb hby own_dfo_17) rfl (Jvm.Free.XT.ll_le_f hc17) k) ?_
      show own_Fin _ _ _ _ _ _ _ (T2.setTop (mkF m 20 #[.val (.long va), .second, .val (.long vb), .second] []))
      refine own_Fin.go (fun t k => XS.lloadN X2.here hx rfl (hb hby own_dfo_20) rfl k) ?_
      show own_Fin _ _ _ _ _ _ _ (T2.setTop (mkF m 21 #[.val (.long va), .second, .val (.long vb), .second] [(.long va)]))
      refine own_Fin.go (fun t k => X2.ldc2Long hx hown (mvT hZ (hw _ (List.mem_of_getElem? (i := 13) rfl))) (g := (mkF m 21 #[.val (.long va), .second, .val (.long vb), .second] [(.long va)])) rfl (hb hby own_dfo_21) t k) ?_
      show own_Fin _ _ _ _ _ _ _ (T2.setTop (mkF m 24 #[.val (.long va), .second, .val (.long vb), .second] [(.long (4294967295 : Int64)), (.long va)]))
      refine own_Fin.go (fun t k => XS.land X2.here hx rfl (hb hby own_dfo_24) rfl k) ?_
      show own_Fin _ _ _ _ _ _ _ (T2.setTop (mkF m 25 #[.val (.long va), .second, .val (.long vb), .second] [(.long (va &&& (4294967295 : Int64)))]))
      refine own_Fin.go (fun t k => XS.lconst X2.here hx rfl (hb hby own_dfo_25) k) ?_
      show own_Fin _ _ _ _ _ _ _ (T2.setTop (mkF m 26 #[.val (.long va), .second, .val (.long vb), .second] [(.long (1 : Int64)), (.long (va &&& (4294967295 : Int64)))]))
      refine own_Fin.go (fun t k => XS.lcmp X2.here hx rfl (hb hby own_dfo_26) rfl k) ?_
      show own_Fin _ _ _ _ _ _ _ (T2.setTop (mkF m 27 #[.val (.long va), .second, .val (.long vb), .second] [(.int (lcmpW (va &&& (4294967295 : Int64)) (1 : Int64)))]))
      by_cases hc27 : (va &&& (4294967295 : Int64)) = (1 : Int64)
      · refine own_Fin.go (fun t k => XS.ifNo X2.here hx rfl (hb hby own_dfo_27) rfl (Jvm.Free.XT.ll_ne_f hc27) k) ?_
        show own_Fin _ _ _ _ _ _ _ (T2.setTop (mkF m 30 #[.val (.long va), .second, .val (.long vb), .second] []))
        refine own_Fin.go (fun t k => XS.iconst X2.here hx rfl (hb hby own_dfo_30) k) ?_
        show own_Fin _ _ _ _ _ _ _ (T2.setTop (mkF m 31 #[.val (.long va), .second, .val (.long vb), .second] [(.int (1 : Int32))]))
        refine own_Fin.go (fun t k => XS.goto X2.here hx rfl (pc0 := 31) (pc' := 35) rfl (hb hby own_dfo_31) (by decide) (by decide) k) ?_
        show own_Fin _ _ _ _ _ _ _ (T2.setTop (mkF m 35 #[.val (.long va), .second, .val (.long vb), .second] [(.int (1 : Int32))]))
        refine own_retN X2 hx (t := .boolean) (w := (1 : Int32)) Bd.returns (by simp) (hb hby own_dfo_35) Bd.notSynchronized rfl (by decide) (by decide) ?_
        rw [e2]
        exact ⟨by simp only [own_follows, if_neg hc5, if_pos hc17, if_pos hc27], N2, rfl⟩
      · refine own_Fin.go (fun t k => XS.ifYes X2.here hx rfl (pc0 := 27) (pc' := 34) rfl (hb hby own_dfo_27) rfl (Jvm.Free.XT.ll_ne_t hc27) (by decide) (by decide) k) ?_
        show own_Fin _ _ _ _ _ _ _ (T2.setTop (mkF m 34 #[.val (.long va), .second, .val (.long vb), .second] []))
        refine own_Fin.go (fun t k => XS.iconst X2.here hx rfl (hb hby own_dfo_34) k) ?_
        show own_Fin _ _ _ _ _ _ _ (T2.setTop (mkF m 35 #[.val (.long va), .second, .val (.long vb), .second] [(.int (0 : Int32))]))
        refine own_retN X2 hx (t := .boolean) (w := (0 : Int32)) Bd.returns (by simp) (hb hby own_dfo_35) Bd.notSynchronized rfl (by decide) (by decide) ?_
        rw [e2]
        exact ⟨by simp only [own_follows, if_neg hc5, if_pos hc17, if_neg hc27], N2, rfl⟩
    · refine own_Fin.go (fun t k => XS.ifYes X2.here hx rfl (pc0 := 17) (pc' := 34) rfl (hb hby own_dfo_17) rfl (Jvm.Free.XT.ll_le_t hc17) (by decide) (by decide) k) ?_
      show own_Fin _ _ _ _ _ _ _ (T2.setTop (mkF m 34 #[.val (.long va), .second, .val (.long vb), .second] []))
      refine own_Fin.go (fun t k => XS.iconst X2.here hx rfl (hb hby own_dfo_34) k) ?_
      show own_Fin _ _ _ _ _ _ _ (T2.setTop (mkF m 35 #[.val (.long va), .second, .val (.long vb), .second] [(.int (0 : Int32))]))
      refine own_retN X2 hx (t := .boolean) (w := (0 : Int32)) Bd.returns (by simp) (hb hby own_dfo_35) Bd.notSynchronized rfl (by decide) (by decide) ?_
      rw [e2]
      exact ⟨by simp only [own_follows, if_neg hc5, if_neg hc17], N2, rfl⟩
theorem own_pd1 : parseMethodDescriptor "(II)J" = some ⟨[.int, .int], some .long⟩ := by decide +kernel
theorem own_pd2 : parseMethodDescriptor "(JJ)Z" = some ⟨[.long, .long], some .boolean⟩ := by decide +kernel
theorem own_ef_law (m : MethodId) (va : Int32) (vb : Int32) (vc : Int32) (vd : Int32) (ve : Int32) : entryFrame m #[(.int va), (.int vb), (.int vc), (.int vd), (.int ve)] maxLocals = mkF m 0 #[.val (.int va), .val (.int vb), .val (.int vc), .val (.int vd), .val (.int ve), .unset, .unset, .unset, .unset, .unset, .unset, .unset, .unset, .unset, .unset, .unset, .unset, .unset] [] := by first | (simp [entryFrame, mkF, argsToLocals, Value.category, maxLocals]; done) | rfl
def own_Q_law (Z : State) (va : Int32) (vb : Int32) (vc : Int32) (vd : Int32) (ve : Int32) (h0 : Heap) (n0 : Nat) (v : Option Value) (h : Heap) (L : List Loc) : Prop := v = some (.int (1 : Int32)) ∧ Fr n0 L
set_option maxRecDepth 65536 in
set_option maxHeartbeats 40000000 in
theorem own_rm_law (l : Launch) (Z : State) (a0 : Array Value) (hw : ∀ d ∈ tables_1, d.before a0 Z = true) (ws : List Jvm.Cond) (va : Int32) (vb : Int32) (vc : Int32) (vd : Int32) (ve : Int32) (h0 : Heap) (n0 : Nat) (Z0 : n0 ≤ h0.size) :
    MetFree l x (head1 (Jvm.Cond.code x code maxLocals ret :: ws) room_1) (fun a U => a = #[(.int va), (.int vb), (.int vc), (.int vd), (.int ve)] ∧ Z.Warmed39 U.vm ∧ U.heap = h0) (fun _ _ _ _ _ => True) (fun _ U o U' => ∃ v L, o = .returned v ∧ own_Q_law Z va vb vc vd ve h0 n0 v U'.heap L ∧ FrameEnd U o U' L room_1.cells room_1.slots) := by
  refine MetFree.of_bodySF (plainFor_of_name own_pn0) hisR ?_
  intro p e s m args below meth c s₁ Bd hml0 hP hK
  obtain ⟨rfl, hZ, hh⟩ := hP
  have hx := Bd.exec
  have hby := Bd.bytes
  have hml : c.maxLocals = 18 := hml0
  have hown : s.vm.findClass "com/example/stentor/stentor/server/ZxidsFollowsPinLaw" = some m.cls := findClass_of_methodNamed Bd.named
  have hnm := (name_of_methodNamed Bd.named Bd.method).1
  have X0 : Stand p l e room_1 s m #[(.int va), (.int vb), (.int vc), (.int vd), (.int ve)] below meth c s₁ [] 0 0 := Stand.of_body Bd
  have e0 : s₁.heap = h0 := by rw [← hh, Bd.state]; rfl
  have N0 := Fr.nil n0
  show own_Fin p e below s (own_Q_law Z va vb vc vd ve h0 n0) room_1.cells room_1.slots (s₁.setTop (entryFrame m #[(.int va), (.int vb), (.int vc), (.int vd), (.int ve)] maxLocals))
  refine own_Fin.go (fun t k => castTop (own_ef_law m va vb vc vd ve) k) ?_
  have J21 : ∀ (ee : Int32), own_Fin p e below s (own_Q_law Z va vb vc vd ve h0 n0) room_1.cells room_1.slots (s₁.setTop (mkF m 21 #[.val (.int va), .val (.int vb), .val (.int vc), .val (.int vd), .val (.int ve), .unset, .unset, .unset, .unset, .unset, .unset, .unset, .unset, .unset, .unset, .unset, .unset, .unset] [(.int ee)])) := by
    intro ee
    refine own_Fin.go (fun t k => XS.istore X0.here hx rfl (hb hby at_21) rfl (l' := #[.val (.int va), .val (.int vb), .val (.int vc), .val (.int vd), .val (.int ve), .val (.int ee), .unset, .unset, .unset, .unset, .unset, .unset, .unset, .unset, .unset, .unset, .unset, .unset]) rfl k) ?_
    show own_Fin _ _ _ _ _ _ _ (s₁.setTop (mkF m 23 #[.val (.int va), .val (.int vb), .val (.int vc), .val (.int vd), .val (.int ve), .val (.int ee), .unset, .unset, .unset, .unset, .unset, .unset, .unset, .unset, .unset, .unset, .unset, .unset] []))
    refine own_Fin.go (fun t k => XS.iload X0.here hx rfl (hb hby at_23) rfl k) ?_
    show own_Fin _ _ _ _ _ _ _ (s₁.setTop (mkF m 25 #[.val (.int va), .val (.int vb), .val (.int vc), .val (.int vd), .val (.int ve), .val (.int ee), .unset, .unset, .unset, .unset, .unset, .unset, .unset, .unset, .unset, .unset, .unset, .unset] [(.int ve)]))
    refine own_Fin.go (fun t k => XS.iconst X0.here hx rfl (hb hby at_25) k) ?_
    show own_Fin _ _ _ _ _ _ _ (s₁.setTop (mkF m 26 #[.val (.int va), .val (.int vb), .val (.int vc), .val (.int vd), .val (.int ve), .val (.int ee), .unset, .unset, .unset, .unset, .unset, .unset, .unset, .unset, .unset, .unset, .unset, .unset] [(.int (4 : Int32)), (.int ve)]))
    refine own_Fin.go (fun t k => XS.iushr X0.here hx rfl (hb hby at_26) rfl k) ?_
    show own_Fin _ _ _ _ _ _ _ (s₁.setTop (mkF m 27 #[.val (.int va), .val (.int vb), .val (.int vc), .val (.int vd), .val (.int ve), .val (.int ee), .unset, .unset, .unset, .unset, .unset, .unset, .unset, .unset, .unset, .unset, .unset, .unset] [(.int ((ve.toUInt32 >>> ((4 : Int32) &&& 31).toUInt32).toInt32))]))
    refine own_Fin.go (fun t k => XS.iconst X0.here hx rfl (hb hby at_27) k) ?_
    show own_Fin _ _ _ _ _ _ _ (s₁.setTop (mkF m 28 #[.val (.int va), .val (.int vb), .val (.int vc), .val (.int vd), .val (.int ve), .val (.int ee), .unset, .unset, .unset, .unset, .unset, .unset, .unset, .unset, .unset, .unset, .unset, .unset] [(.int (3 : Int32)), (.int ((ve.toUInt32 >>> ((4 : Int32) &&& 31).toUInt32).toInt32))]))
    refine own_Fin.go (fun t k => XS.iand X0.here hx rfl (hb hby at_28) rfl k) ?_
    show own_Fin _ _ _ _ _ _ _ (s₁.setTop (mkF m 29 #[.val (.int va), .val (.int vb), .val (.int vc), .val (.int vd), .val (.int ve), .val (.int ee), .unset, .unset, .unset, .unset, .unset, .unset, .unset, .unset, .unset, .unset, .unset, .unset] [(.int (((ve.toUInt32 >>> ((4 : Int32) &&& 31).toUInt32).toInt32) &&& (3 : Int32)))]))
    refine own_Fin.go (fun t k => XS.istore X0.here hx rfl (hb hby at_29) rfl (l' := #[.val (.int va), .val (.int vb), .val (.int vc), .val (.int vd), .val (.int ve), .val (.int ee), .val (.int (((ve.toUInt32 >>> ((4 : Int32) &&& 31).toUInt32).toInt32) &&& (3 : Int32))), .unset, .unset, .unset, .unset, .unset, .unset, .unset, .unset, .unset, .unset, .unset]) rfl k) ?_
    show own_Fin _ _ _ _ _ _ _ (s₁.setTop (mkF m 31 #[.val (.int va), .val (.int vb), .val (.int vc), .val (.int vd), .val (.int ve), .val (.int ee), .val (.int (((ve.toUInt32 >>> ((4 : Int32) &&& 31).toUInt32).toInt32) &&& (3 : Int32))), .unset, .unset, .unset, .unset, .unset, .unset, .unset, .unset, .unset, .unset, .unset] []))
    have J51 : ∀ (ca : Int32), own_Fin p e below s (own_Q_law Z va vb vc vd ve h0 n0) room_1.cells room_1.slots (s₁.setTop (mkF m 51 #[.val (.int va), .val (.int vb), .val (.int vc), .val (.int vd), .val (.int ve), .val (.int ee), .val (.int (((ve.toUInt32 >>> ((4 : Int32) &&& 31).toUInt32).toInt32) &&& (3 : Int32))), .unset, .unset, .unset, .unset, .unset, .unset, .unset, .unset, .unset, .unset, .unset] [(.int ca)])) := by
      intro ca
      refine own_Fin.go (fun t k => XS.istore X0.here hx rfl (hb hby at_51) rfl (l' := #[.val (.int va), .val (.int vb), .val (.int vc), .val (.int vd), .val (.int ve), .val (.int ee), .val (.int (((ve.toUInt32 >>> ((4 : Int32) &&& 31).toUInt32).toInt32) &&& (3 : Int32))), .val (.int ca), .unset, .unset, .unset, .unset, .unset, .unset, .unset, .unset, .unset, .unset]) rfl k) ?_
      show own_Fin _ _ _ _ _ _ _ (s₁.setTop (mkF m 53 #[.val (.int va), .val (.int vb), .val (.int vc), .val (.int vd), .val (.int ve), .val (.int ee), .val (.int (((ve.toUInt32 >>> ((4 : Int32) &&& 31).toUInt32).toInt32) &&& (3 : Int32))), .val (.int ca), .unset, .unset, .unset, .unset, .unset, .unset, .unset, .unset, .unset, .unset] []))
      refine own_Fin.go (fun t k => XS.iload X0.here hx rfl (hb hby at_53) rfl k) ?_
      show own_Fin _ _ _ _ _ _ _ (s₁.setTop (mkF m 55 #[.val (.int va), .val (.int vb), .val (.int vc), .val (.int vd), .val (.int ve), .val (.int ee), .val (.int (((ve.toUInt32 >>> ((4 : Int32) &&& 31).toUInt32).toInt32) &&& (3 : Int32))), .val (.int ca), .unset, .unset, .unset, .unset, .unset, .unset, .unset, .unset, .unset, .unset] [(.int ve)]))
      refine own_Fin.go (fun t k => XS.bipush X0.here hx rfl (hb hby at_55) k) ?_
      show own_Fin _ _ _ _ _ _ _ (s₁.setTop (mkF m 57 #[.val (.int va), .val (.int vb), .val (.int vc), .val (.int vd), .val (.int ve), .val (.int ee), .val (.int (((ve.toUInt32 >>> ((4 : Int32) &&& 31).toUInt32).toInt32) &&& (3 : Int32))), .val (.int ca), .unset, .unset, .unset, .unset, .unset, .unset, .unset, .unset, .unset, .unset] [(.int (6 : Int32)), (.int ve)]))
      refine own_Fin.go (fun t k => XS.iushr X0.here hx rfl (hb hby at_57) rfl k) ?_
      show own_Fin _ _ _ _ _ _ _ (s₁.setTop (mkF m 58 #[.val (.int va), .val (.int vb), .val (.int vc), .val (.int vd), .val (.int ve), .val (.int ee), .val (.int (((ve.toUInt32 >>> ((4 : Int32) &&& 31).toUInt32).toInt32) &&& (3 : Int32))), .val (.int ca), .unset, .unset, .unset, .unset, .unset, .unset, .unset, .unset, .unset, .unset] [(.int ((ve.toUInt32 >>> ((6 : Int32) &&& 31).toUInt32).toInt32))]))
      refine own_Fin.go (fun t k => XS.iconst X0.here hx rfl (hb hby at_58) k) ?_
      show own_Fin _ _ _ _ _ _ _ (s₁.setTop (mkF m 59 #[.val (.int va), .val (.int vb), .val (.int vc), .val (.int vd), .val (.int ve), .val (.int ee), .val (.int (((ve.toUInt32 >>> ((4 : Int32) &&& 31).toUInt32).toInt32) &&& (3 : Int32))), .val (.int ca), .unset, .unset, .unset, .unset, .unset, .unset, .unset, .unset, .unset, .unset] [(.int (3 : Int32)), (.int ((ve.toUInt32 >>> ((6 : Int32) &&& 31).toUInt32).toInt32))]))
      refine own_Fin.go (fun t k => XS.iand X0.here hx rfl (hb hby at_59) rfl k) ?_
      show own_Fin _ _ _ _ _ _ _ (s₁.setTop (mkF m 60 #[.val (.int va), .val (.int vb), .val (.int vc), .val (.int vd), .val (.int ve), .val (.int ee), .val (.int (((ve.toUInt32 >>> ((4 : Int32) &&& 31).toUInt32).toInt32) &&& (3 : Int32))), .val (.int ca), .unset, .unset, .unset, .unset, .unset, .unset, .unset, .unset, .unset, .unset] [(.int (((ve.toUInt32 >>> ((6 : Int32) &&& 31).toUInt32).toInt32) &&& (3 : Int32)))]))
      refine own_Fin.go (fun t k => XS.istore X0.here hx rfl (hb hby at_60) rfl (l' := #[.val (.int va), .val (.int vb), .val (.int vc), .val (.int vd), .val (.int ve), .val (.int ee), .val (.int (((ve.toUInt32 >>> ((4 : Int32) &&& 31).toUInt32).toInt32) &&& (3 : Int32))), .val (.int ca), .val (.int (((ve.toUInt32 >>> ((6 : Int32) &&& 31).toUInt32).toInt32) &&& (3 : Int32))), .unset, .unset, .unset, .unset, .unset, .unset, .unset, .unset, .unset]) rfl k) ?_
      show own_Fin _ _ _ _ _ _ _ (s₁.setTop (mkF m 62 #[.val (.int va), .val (.int vb), .val (.int vc), .val (.int vd), .val (.int ve), .val (.int ee), .val (.int (((ve.toUInt32 >>> ((4 : Int32) &&& 31).toUInt32).toInt32) &&& (3 : Int32))), .val (.int ca), .val (.int (((ve.toUInt32 >>> ((6 : Int32) &&& 31).toUInt32).toInt32) &&& (3 : Int32))), .unset, .unset, .unset, .unset, .unset, .unset, .unset, .unset, .unset] []))
      have J96 : ∀ (cb : Int32), own_Fin p e below s (own_Q_law Z va vb vc vd ve h0 n0) room_1.cells room_1.slots (s₁.setTop (mkF m 96 #[.val (.int va), .val (.int vb), .val (.int vc), .val (.int vd), .val (.int ve), .val (.int ee), .val (.int (((ve.toUInt32 >>> ((4 : Int32) &&& 31).toUInt32).toInt32) &&& (3 : Int32))), .val (.int ca), .val (.int (((ve.toUInt32 >>> ((6 : Int32) &&& 31).toUInt32).toInt32) &&& (3 : Int32))), .unset, .unset, .unset, .unset, .unset, .unset, .unset, .unset, .unset] [(.int cb)])) := by
        intro cb
        refine own_Fin.go (fun t k => XS.istore X0.here hx rfl (hb hby at_96) rfl (l' := #[.val (.int va), .val (.int vb), .val (.int vc), .val (.int vd), .val (.int ve), .val (.int ee), .val (.int (((ve.toUInt32 >>> ((4 : Int32) &&& 31).toUInt32).toInt32) &&& (3 : Int32))), .val (.int ca), .val (.int (((ve.toUInt32 >>> ((6 : Int32) &&& 31).toUInt32).toInt32) &&& (3 : Int32))), .val (.int cb), .unset, .unset, .unset, .unset, .unset, .unset, .unset, .unset]) rfl k) ?_
        show own_Fin _ _ _ _ _ _ _ (s₁.setTop (mkF m 98 #[.val (.int va), .val (.int vb), .val (.int vc), .val (.int vd), .val (.int ve), .val (.int ee), .val (.int (((ve.toUInt32 >>> ((4 : Int32) &&& 31).toUInt32).toInt32) &&& (3 : Int32))), .val (.int ca), .val (.int (((ve.toUInt32 >>> ((6 : Int32) &&& 31).toUInt32).toInt32) &&& (3 : Int32))), .val (.int cb), .unset, .unset, .unset, .unset, .unset, .unset, .unset, .unset] []))
        refine own_Fin.go (fun t k => XS.iloadN X0.here hx rfl (hb hby at_98) rfl k) ?_
        show own_Fin _ _ _ _ _ _ _ (s₁.setTop (mkF m 99 #[.val (.int va), .val (.int vb), .val (.int vc), .val (.int vd), .val (.int ve), .val (.int ee), .val (.int (((ve.toUInt32 >>> ((4 : Int32) &&& 31).toUInt32).toInt32) &&& (3 : Int32))), .val (.int ca), .val (.int (((ve.toUInt32 >>> ((6 : Int32) &&& 31).toUInt32).toInt32) &&& (3 : Int32))), .val (.int cb), .unset, .unset, .unset, .unset, .unset, .unset, .unset, .unset] [(.int va)]))
        refine own_Fin.go (fun t k => XS.iload X0.here hx rfl (hb hby at_99) rfl k) ?_
        show own_Fin _ _ _ _ _ _ _ (s₁.setTop (mkF m 101 #[.val (.int va), .val (.int vb), .val (.int vc), .val (.int vd), .val (.int ve), .val (.int ee), .val (.int (((ve.toUInt32 >>> ((4 : Int32) &&& 31).toUInt32).toInt32) &&& (3 : Int32))), .val (.int ca), .val (.int (((ve.toUInt32 >>> ((6 : Int32) &&& 31).toUInt32).toInt32) &&& (3 : Int32))), .val (.int cb), .unset, .unset, .unset, .unset, .unset, .unset, .unset, .unset] [(.int ca), (.int va)]))
        obtain ⟨_, _, ⟨T1, L1, k1, n1⟩, -, X1, ⟨Lc1, hQ1, l1, y1, z1⟩, st1⟩ := Jvm.LawKit.callS X0 hx (y := (⟨"com/example/stentor/stentor/server/ZxidsFollowsPinLaw", "make", "(II)J"⟩ : MethodName)) hown (mvT hZ (hw _ (List.mem_of_getElem? (i := 0) rfl))) (mvT hZ (hw _ (List.mem_of_getElem? (i := 1) rfl))) (mvT hZ (hw _ (List.mem_of_getElem? (i := 2) rfl))) (mvT hZ (hw _ (List.mem_of_getElem? (i := 3) rfl))) (by decide) (backOf (W := 0) (own_rm_mk l Z a0 hw [] va ca  h0 n0 Z0 ) hZ (hw _ (List.mem_of_getElem? (i := 3) rfl)) (hw _ (List.mem_of_getElem? (i := 2) rfl)) (by decide) (by decide)) (g := (mkF m 101 #[.val (.int va), .val (.int vb), .val (.int vc), .val (.int vd), .val (.int ve), .val (.int ee), .val (.int (((ve.toUInt32 >>> ((4 : Int32) &&& 31).toUInt32).toInt32) &&& (3 : Int32))), .val (.int ca), .val (.int (((ve.toUInt32 >>> ((6 : Int32) &&& 31).toUInt32).toInt32) &&& (3 : Int32))), .val (.int cb), .unset, .unset, .unset, .unset, .unset, .unset, .unset, .unset] [(.int ca), (.int va)])) rfl (by rw [hml]; rfl) (argsL := [(.int va), (.int ca)]) (rest := []) (lenOf own_pd1 rfl) rfl (by show 2 * 0 + _ ≤ _; exact Nat.le_of_eq rfl) (hb hby at_101) (fun _ _ => ⟨rfl, e0, (by decide : 0 + 0 ≤ _), (by decide : 0 + 0 ≤ _)⟩)
        dsimp only [Pt.U, Pt.locs, Pt.cells, Pt.slots] at X1 l1 y1 z1 st1 hQ1
        subst l1 y1 z1
        obtain ⟨rfl, N1q, e1⟩ := hQ1
        refine own_Fin.go (fun t k => st1 t k) ?_
        have N1 := Fr.app N0 N1q
        show own_Fin _ _ _ _ _ _ _ (T1.setTop (mkF m 104 #[.val (.int va), .val (.int vb), .val (.int vc), .val (.int vd), .val (.int ve), .val (.int ee), .val (.int (((ve.toUInt32 >>> ((4 : Int32) &&& 31).toUInt32).toInt32) &&& (3 : Int32))), .val (.int ca), .val (.int (((ve.toUInt32 >>> ((6 : Int32) &&& 31).toUInt32).toInt32) &&& (3 : Int32))), .val (.int cb), .unset, .unset, .unset, .unset, .unset, .unset, .unset, .unset] [(.long (own_make va ca))]))
        refine own_Fin.go (fun t k => XS.lstore X1.here hx rfl (hb hby at_104) rfl (l' := #[.val (.int va), .val (.int vb), .val (.int vc), .val (.int vd), .val (.int ve), .val (.int ee), .val (.int (((ve.toUInt32 >>> ((4 : Int32) &&& 31).toUInt32).toInt32) &&& (3 : Int32))), .val (.int ca), .val (.int (((ve.toUInt32 >>> ((6 : Int32) &&& 31).toUInt32).toInt32) &&& (3 : Int32))), .val (.int cb), .val (.long (own_make va ca)), .second, .unset, .unset, .unset, .unset, .unset, .unset]) rfl k) ?_
        show own_Fin _ _ _ _ _ _ _ (T1.setTop (mkF m 106 #[.val (.int va), .val (.int vb), .val (.int vc), .val (.int vd), .val (.int ve), .val (.int ee), .val (.int (((ve.toUInt32 >>> ((4 : Int32) &&& 31).toUInt32).toInt32) &&& (3 : Int32))), .val (.int ca), .val (.int (((ve.toUInt32 >>> ((6 : Int32) &&& 31).toUInt32).toInt32) &&& (3 : Int32))), .val (.int cb), .val (.long (own_make va ca)), .second, .unset, .unset, .unset, .unset, .unset, .unset] []))
        refine own_Fin.go (fun t k => XS.iload X1.here hx rfl (hb hby at_106) rfl k) ?_
        show own_Fin _ _ _ _ _ _ _ (T1.setTop (mkF m 108 #[.val (.int va), .val (.int vb), .val (.int vc), .val (.int vd), .val (.int ve), .val (.int ee), .val (.int (((ve.toUInt32 >>> ((4 : Int32) &&& 31).toUInt32).toInt32) &&& (3 : Int32))), .val (.int ca), .val (.int (((ve.toUInt32 >>> ((6 : Int32) &&& 31).toUInt32).toInt32) &&& (3 : Int32))), .val (.int cb), .val (.long (own_make va ca)), .second, .unset, .unset, .unset, .unset, .unset, .unset] [(.int ee)]))
        refine own_Fin.go (fun t k => XS.iload X1.here hx rfl (hb hby at_108) rfl k) ?_
        show own_Fin _ _ _ _ _ _ _ (T1.setTop (mkF m 110 #[.val (.int va), .val (.int vb), .val (.int vc), .val (.int vd), .val (.int ve), .val (.int ee), .val (.int (((ve.toUInt32 >>> ((4 : Int32) &&& 31).toUInt32).toInt32) &&& (3 : Int32))), .val (.int ca), .val (.int (((ve.toUInt32 >>> ((6 : Int32) &&& 31).toUInt32).toInt32) &&& (3 : Int32))), .val (.int cb), .val (.long (own_make va ca)), .second, .unset, .unset, .unset, .unset, .unset, .unset] [(.int cb), (.int ee)]))
        obtain ⟨_, _, ⟨T2, L2, k2, n2⟩, -, X2, ⟨Lc2, hQ2, l2, y2, z2⟩, st2⟩ := Jvm.LawKit.callS X1 hx (y := (⟨"com/example/stentor/stentor/server/ZxidsFollowsPinLaw", "make", "(II)J"⟩ : MethodName)) hown (mvT hZ (hw _ (List.mem_of_getElem? (i := 0) rfl))) (mvT hZ (hw _ (List.mem_of_getElem? (i := 1) rfl))) (mvT hZ (hw _ (List.mem_of_getElem? (i := 2) rfl))) (mvT hZ (hw _ (List.mem_of_getElem? (i := 3) rfl))) (by decide) (backOf (W := 0) (own_rm_mk l Z a0 hw [] ee cb  h0 n0 Z0 ) hZ (hw _ (List.mem_of_getElem? (i := 3) rfl)) (hw _ (List.mem_of_getElem? (i := 2) rfl)) (by decide) (by decide)) (g := (mkF m 110 #[.val (.int va), .val (.int vb), .val (.int vc), .val (.int vd), .val (.int ve), .val (.int ee), .val (.int (((ve.toUInt32 >>> ((4 : Int32) &&& 31).toUInt32).toInt32) &&& (3 : Int32))), .val (.int ca), .val (.int (((ve.toUInt32 >>> ((6 : Int32) &&& 31).toUInt32).toInt32) &&& (3 : Int32))), .val (.int cb), .val (.long (own_make va ca)), .second, .unset, .unset, .unset, .unset, .unset, .unset] [(.int cb), (.int ee)])) rfl (by rw [hml]; rfl) (argsL := [(.int ee), (.int cb)]) (rest := []) (lenOf own_pd1 rfl) rfl (by show 2 * 0 + _ ≤ _; exact Nat.le_of_eq rfl) (hb hby at_110) (fun _ _ => ⟨rfl, e1, (by decide : 0 + 0 ≤ _), (by decide : 0 + 0 ≤ _)⟩)
        dsimp only [Pt.U, Pt.locs, Pt.cells, Pt.slots] at X2 l2 y2 z2 st2 hQ2
        subst l2 y2 z2
        obtain ⟨rfl, N2q, e2⟩ := hQ2
        refine own_Fin.go (fun t k => st2 t k) ?_
        have N2 := Fr.app N1 N2q
        show own_Fin _ _ _ _ _ _ _ (T2.setTop (mkF m 113 #[.val (.int va), .val (.int vb), .val (.int vc), .val (.int vd), .val (.int ve), .val (.int ee), .val (.int (((ve.toUInt32 >>> ((4 : Int32) &&& 31).toUInt32).toInt32) &&& (3 : Int32))), .val (.int ca), .val (.int (((ve.toUInt32 >>> ((6 : Int32) &&& 31).toUInt32).toInt32) &&& (3 : Int32))), .val (.int cb), .val (.long (own_make va ca)), .second, .unset, .unset, .unset, .unset, .unset, .unset] [(.long (own_make ee cb))]))
        refine own_Fin.go (fun t k => XS.lstore X2.here hx rfl (hb hby at_113) rfl (l' := #[.val (.int va), .val (.int vb), .val (.int vc), .val (.int vd), .val (.int ve), .val (.int ee), .val (.int (((ve.toUInt32 >>> ((4 : Int32) &&& 31).toUInt32).toInt32) &&& (3 : Int32))), .val (.int ca), .val (.int (((ve.toUInt32 >>> ((6 : Int32) &&& 31).toUInt32).toInt32) &&& (3 : Int32))), .val (.int cb), .val (.long (own_make va ca)), .second, .val (.long (own_make ee cb)), .second, .unset, .unset, .unset, .unset]) rfl k) ?_
        show own_Fin _ _ _ _ _ _ _ (T2.setTop (mkF m 115 #[.val (.int va), .val (.int vb), .val (.int vc), .val (.int vd), .val (.int ve), .val (.int ee), .val (.int (((ve.toUInt32 >>> ((4 : Int32) &&& 31).toUInt32).toInt32) &&& (3 : Int32))), .val (.int ca), .val (.int (((ve.toUInt32 >>> ((6 : Int32) &&& 31).toUInt32).toInt32) &&& (3 : Int32))), .val (.int cb), .val (.long (own_make va ca)), .second, .val (.long (own_make ee cb)), .second, .unset, .unset, .unset, .unset] []))
        have J141 : ∀ (ba : Int32) (hJ141 : ba = own_ba va ee ca cb), own_Fin p e below s (own_Q_law Z va vb vc vd ve h0 n0) room_1.cells room_1.slots (T2.setTop (mkF m 141 #[.val (.int va), .val (.int vb), .val (.int vc), .val (.int vd), .val (.int ve), .val (.int ee), .val (.int (((ve.toUInt32 >>> ((4 : Int32) &&& 31).toUInt32).toInt32) &&& (3 : Int32))), .val (.int ca), .val (.int (((ve.toUInt32 >>> ((6 : Int32) &&& 31).toUInt32).toInt32) &&& (3 : Int32))), .val (.int cb), .val (.long (own_make va ca)), .second, .val (.long (own_make ee cb)), .second, .unset, .unset, .unset, .unset] [(.int ba)])) := by
          intro ba hJ141
          refine own_Fin.go (fun t k => XS.istore X2.here hx rfl (hb hby at_141) rfl (l' := #[.val (.int va), .val (.int vb), .val (.int vc), .val (.int vd), .val (.int ve), .val (.int ee), .val (.int (((ve.toUInt32 >>> ((4 : Int32) &&& 31).toUInt32).toInt32) &&& (3 : Int32))), .val (.int ca), .val (.int (((ve.toUInt32 >>> ((6 : Int32) &&& 31).toUInt32).toInt32) &&& (3 : Int32))), .val (.int cb), .val (.long (own_make va ca)), .second, .val (.long (own_make ee cb)), .second, .val (.int ba), .unset, .unset, .unset]) rfl k) ?_
          show own_Fin _ _ _ _ _ _ _ (T2.setTop (mkF m 143 #[.val (.int va), .val (.int vb), .val (.int vc), .val (.int vd), .val (.int ve), .val (.int ee), .val (.int (((ve.toUInt32 >>> ((4 : Int32) &&& 31).toUInt32).toInt32) &&& (3 : Int32))), .val (.int ca), .val (.int (((ve.toUInt32 >>> ((6 : Int32) &&& 31).toUInt32).toInt32) &&& (3 : Int32))), .val (.int cb), .val (.long (own_make va ca)), .second, .val (.long (own_make ee cb)), .second, .val (.int ba), .unset, .unset, .unset] []))
          have J167 : ∀ (bb : Int32) (hJ167 : bb = own_bb va ee ca cb), own_Fin p e below s (own_Q_law Z va vb vc vd ve h0 n0) room_1.cells room_1.slots (T2.setTop (mkF m 167 #[.val (.int va), .val (.int vb), .val (.int vc), .val (.int vd), .val (.int ve), .val (.int ee), .val (.int (((ve.toUInt32 >>> ((4 : Int32) &&& 31).toUInt32).toInt32) &&& (3 : Int32))), .val (.int ca), .val (.int (((ve.toUInt32 >>> ((6 : Int32) &&& 31).toUInt32).toInt32) &&& (3 : Int32))), .val (.int cb), .val (.long (own_make va ca)), .second, .val (.long (own_make ee cb)), .second, .val (.int ba), .unset, .unset, .unset] [(.int bb)])) := by
            intro bb hJ167
            refine own_Fin.go (fun t k => XS.istore X2.here hx rfl (hb hby at_167) rfl (l' := #[.val (.int va), .val (.int vb), .val (.int vc), .val (.int vd), .val (.int ve), .val (.int ee), .val (.int (((ve.toUInt32 >>> ((4 : Int32) &&& 31).toUInt32).toInt32) &&& (3 : Int32))), .val (.int ca), .val (.int (((ve.toUInt32 >>> ((6 : Int32) &&& 31).toUInt32).toInt32) &&& (3 : Int32))), .val (.int cb), .val (.long (own_make va ca)), .second, .val (.long (own_make ee cb)), .second, .val (.int ba), .val (.int bb), .unset, .unset]) rfl k) ?_
            show own_Fin _ _ _ _ _ _ _ (T2.setTop (mkF m 169 #[.val (.int va), .val (.int vb), .val (.int vc), .val (.int vd), .val (.int ve), .val (.int ee), .val (.int (((ve.toUInt32 >>> ((4 : Int32) &&& 31).toUInt32).toInt32) &&& (3 : Int32))), .val (.int ca), .val (.int (((ve.toUInt32 >>> ((6 : Int32) &&& 31).toUInt32).toInt32) &&& (3 : Int32))), .val (.int cb), .val (.long (own_make va ca)), .second, .val (.long (own_make ee cb)), .second, .val (.int ba), .val (.int bb), .unset, .unset] []))
            have J192 : ∀ (bc : Int32) (hJ192 : bc = own_bc va ee ca), own_Fin p e below s (own_Q_law Z va vb vc vd ve h0 n0) room_1.cells room_1.slots (T2.setTop (mkF m 192 #[.val (.int va), .val (.int vb), .val (.int vc), .val (.int vd), .val (.int ve), .val (.int ee), .val (.int (((ve.toUInt32 >>> ((4 : Int32) &&& 31).toUInt32).toInt32) &&& (3 : Int32))), .val (.int ca), .val (.int (((ve.toUInt32 >>> ((6 : Int32) &&& 31).toUInt32).toInt32) &&& (3 : Int32))), .val (.int cb), .val (.long (own_make va ca)), .second, .val (.long (own_make ee cb)), .second, .val (.int ba), .val (.int bb), .unset, .unset] [(.int bc)])) := by
              intro bc hJ192
              refine own_Fin.go (fun t k => XS.istore X2.here hx rfl (hb hby at_192) rfl (l' := #[.val (.int va), .val (.int vb), .val (.int vc), .val (.int vd), .val (.int ve), .val (.int ee), .val (.int (((ve.toUInt32 >>> ((4 : Int32) &&& 31).toUInt32).toInt32) &&& (3 : Int32))), .val (.int ca), .val (.int (((ve.toUInt32 >>> ((6 : Int32) &&& 31).toUInt32).toInt32) &&& (3 : Int32))), .val (.int cb), .val (.long (own_make va ca)), .second, .val (.long (own_make ee cb)), .second, .val (.int ba), .val (.int bb), .val (.int bc), .unset]) rfl k) ?_
              show own_Fin _ _ _ _ _ _ _ (T2.setTop (mkF m 194 #[.val (.int va), .val (.int vb), .val (.int vc), .val (.int vd), .val (.int ve), .val (.int ee), .val (.int (((ve.toUInt32 >>> ((4 : Int32) &&& 31).toUInt32).toInt32) &&& (3 : Int32))), .val (.int ca), .val (.int (((ve.toUInt32 >>> ((6 : Int32) &&& 31).toUInt32).toInt32) &&& (3 : Int32))), .val (.int cb), .val (.long (own_make va ca)), .second, .val (.long (own_make ee cb)), .second, .val (.int ba), .val (.int bb), .val (.int bc), .unset] []))
              have J214 : ∀ (bx : Int32) (hJ214 : bx = own_ex ba bb bc), own_Fin p e below s (own_Q_law Z va vb vc vd ve h0 n0) room_1.cells room_1.slots (T2.setTop (mkF m 214 #[.val (.int va), .val (.int vb), .val (.int vc), .val (.int vd), .val (.int ve), .val (.int ee), .val (.int (((ve.toUInt32 >>> ((4 : Int32) &&& 31).toUInt32).toInt32) &&& (3 : Int32))), .val (.int ca), .val (.int (((ve.toUInt32 >>> ((6 : Int32) &&& 31).toUInt32).toInt32) &&& (3 : Int32))), .val (.int cb), .val (.long (own_make va ca)), .second, .val (.long (own_make ee cb)), .second, .val (.int ba), .val (.int bb), .val (.int bc), .unset] [(.int bx)])) := by
                intro bx hJ214
                refine own_Fin.go (fun t k => XS.istore X2.here hx rfl (hb hby at_214) rfl (l' := #[.val (.int va), .val (.int vb), .val (.int vc), .val (.int vd), .val (.int ve), .val (.int ee), .val (.int (((ve.toUInt32 >>> ((4 : Int32) &&& 31).toUInt32).toInt32) &&& (3 : Int32))), .val (.int ca), .val (.int (((ve.toUInt32 >>> ((6 : Int32) &&& 31).toUInt32).toInt32) &&& (3 : Int32))), .val (.int cb), .val (.long (own_make va ca)), .second, .val (.long (own_make ee cb)), .second, .val (.int ba), .val (.int bb), .val (.int bc), .val (.int bx)]) rfl k) ?_
                show own_Fin _ _ _ _ _ _ _ (T2.setTop (mkF m 216 #[.val (.int va), .val (.int vb), .val (.int vc), .val (.int vd), .val (.int ve), .val (.int ee), .val (.int (((ve.toUInt32 >>> ((4 : Int32) &&& 31).toUInt32).toInt32) &&& (3 : Int32))), .val (.int ca), .val (.int (((ve.toUInt32 >>> ((6 : Int32) &&& 31).toUInt32).toInt32) &&& (3 : Int32))), .val (.int cb), .val (.long (own_make va ca)), .second, .val (.long (own_make ee cb)), .second, .val (.int ba), .val (.int bb), .val (.int bc), .val (.int bx)] []))
                refine own_Fin.go (fun t k => XS.lload X2.here hx rfl (hb hby at_216) rfl k) ?_
                show own_Fin _ _ _ _ _ _ _ (T2.setTop (mkF m 218 #[.val (.int va), .val (.int vb), .val (.int vc), .val (.int vd), .val (.int ve), .val (.int ee), .val (.int (((ve.toUInt32 >>> ((4 : Int32) &&& 31).toUInt32).toInt32) &&& (3 : Int32))), .val (.int ca), .val (.int (((ve.toUInt32 >>> ((6 : Int32) &&& 31).toUInt32).toInt32) &&& (3 : Int32))), .val (.int cb), .val (.long (own_make va ca)), .second, .val (.long (own_make ee cb)), .second, .val (.int ba), .val (.int bb), .val (.int bc), .val (.int bx)] [(.long (own_make va ca))]))
                refine own_Fin.go (fun t k => XS.lload X2.here hx rfl (hb hby at_218) rfl k) ?_
                show own_Fin _ _ _ _ _ _ _ (T2.setTop (mkF m 220 #[.val (.int va), .val (.int vb), .val (.int vc), .val (.int vd), .val (.int ve), .val (.int ee), .val (.int (((ve.toUInt32 >>> ((4 : Int32) &&& 31).toUInt32).toInt32) &&& (3 : Int32))), .val (.int ca), .val (.int (((ve.toUInt32 >>> ((6 : Int32) &&& 31).toUInt32).toInt32) &&& (3 : Int32))), .val (.int cb), .val (.long (own_make va ca)), .second, .val (.long (own_make ee cb)), .second, .val (.int ba), .val (.int bb), .val (.int bc), .val (.int bx)] [(.long (own_make ee cb)), (.long (own_make va ca))]))
                obtain ⟨_, _, ⟨T3, L3, k3, n3⟩, -, X3, ⟨Lc3, hQ3, l3, y3, z3⟩, st3⟩ := Jvm.LawKit.callS X2 hx (y := (⟨"com/example/stentor/stentor/server/Zxids", "follows", "(JJ)Z"⟩ : MethodName)) hown (mvT hZ (hw _ (List.mem_of_getElem? (i := 6) rfl))) (mvT hZ (hw _ (List.mem_of_getElem? (i := 7) rfl))) (mvT hZ (hw _ (List.mem_of_getElem? (i := 8) rfl))) (mvT hZ (hw _ (List.mem_of_getElem? (i := 9) rfl))) (by decide) (backOf (W := 0) (own_rm_fo l Z a0 hw [] (own_make va ca) (own_make ee cb)  h0 n0 Z0 ) hZ (hw _ (List.mem_of_getElem? (i := 9) rfl)) (hw _ (List.mem_of_getElem? (i := 8) rfl)) (by decide) (by decide)) (g := (mkF m 220 #[.val (.int va), .val (.int vb), .val (.int vc), .val (.int vd), .val (.int ve), .val (.int ee), .val (.int (((ve.toUInt32 >>> ((4 : Int32) &&& 31).toUInt32).toInt32) &&& (3 : Int32))), .val (.int ca), .val (.int (((ve.toUInt32 >>> ((6 : Int32) &&& 31).toUInt32).toInt32) &&& (3 : Int32))), .val (.int cb), .val (.long (own_make va ca)), .second, .val (.long (own_make ee cb)), .second, .val (.int ba), .val (.int bb), .val (.int bc), .val (.int bx)] [(.long (own_make ee cb)), (.long (own_make va ca))])) rfl (by rw [hml]; rfl) (argsL := [(.long (own_make va ca)), (.long (own_make ee cb))]) (rest := []) (lenOf own_pd2 rfl) rfl (by show 2 * 0 + _ ≤ _; exact Nat.le_of_eq rfl) (hb hby at_220) (fun _ _ => ⟨rfl, e2, (by decide : 0 + 0 ≤ _), (by decide : 0 + 0 ≤ _)⟩)
                dsimp only [Pt.U, Pt.locs, Pt.cells, Pt.slots] at X3 l3 y3 z3 st3 hQ3
                subst l3 y3 z3
                obtain ⟨rfl, N3q, e3⟩ := hQ3
                refine own_Fin.go (fun t k => st3 t k) ?_
                have N3 := Fr.app N2 N3q
                show own_Fin _ _ _ _ _ _ _ (T3.setTop (mkF m 223 #[.val (.int va), .val (.int vb), .val (.int vc), .val (.int vd), .val (.int ve), .val (.int ee), .val (.int (((ve.toUInt32 >>> ((4 : Int32) &&& 31).toUInt32).toInt32) &&& (3 : Int32))), .val (.int ca), .val (.int (((ve.toUInt32 >>> ((6 : Int32) &&& 31).toUInt32).toInt32) &&& (3 : Int32))), .val (.int cb), .val (.long (own_make va ca)), .second, .val (.long (own_make ee cb)), .second, .val (.int ba), .val (.int bb), .val (.int bc), .val (.int bx)] [(.int (own_follows (own_make va ca) (own_make ee cb)))]))
                refine own_Fin.go (fun t k => XS.iload X3.here hx rfl (hb hby at_223) rfl k) ?_
                show own_Fin _ _ _ _ _ _ _ (T3.setTop (mkF m 225 #[.val (.int va), .val (.int vb), .val (.int vc), .val (.int vd), .val (.int ve), .val (.int ee), .val (.int (((ve.toUInt32 >>> ((4 : Int32) &&& 31).toUInt32).toInt32) &&& (3 : Int32))), .val (.int ca), .val (.int (((ve.toUInt32 >>> ((6 : Int32) &&& 31).toUInt32).toInt32) &&& (3 : Int32))), .val (.int cb), .val (.long (own_make va ca)), .second, .val (.long (own_make ee cb)), .second, .val (.int ba), .val (.int bb), .val (.int bc), .val (.int bx)] [(.int bx), (.int (own_follows (own_make va ca) (own_make ee cb)))]))
                have hc225 : (own_follows (own_make va ca) (own_make ee cb)) = bx := by rw [hJ214, hJ192, hJ167, hJ141]; exact own_plain _ _ _ _
                refine own_Fin.go (fun t k => XS.icmpNo X3.here hx rfl (hb hby at_225) rfl (Jvm.Free.XT.ii_ne_f hc225) k) ?_
                show own_Fin _ _ _ _ _ _ _ (T3.setTop (mkF m 228 #[.val (.int va), .val (.int vb), .val (.int vc), .val (.int vd), .val (.int ve), .val (.int ee), .val (.int (((ve.toUInt32 >>> ((4 : Int32) &&& 31).toUInt32).toInt32) &&& (3 : Int32))), .val (.int ca), .val (.int (((ve.toUInt32 >>> ((6 : Int32) &&& 31).toUInt32).toInt32) &&& (3 : Int32))), .val (.int cb), .val (.long (own_make va ca)), .second, .val (.long (own_make ee cb)), .second, .val (.int ba), .val (.int bb), .val (.int bc), .val (.int bx)] []))
                refine own_Fin.go (fun t k => XS.iconst X3.here hx rfl (hb hby at_228) k) ?_
                show own_Fin _ _ _ _ _ _ _ (T3.setTop (mkF m 229 #[.val (.int va), .val (.int vb), .val (.int vc), .val (.int vd), .val (.int ve), .val (.int ee), .val (.int (((ve.toUInt32 >>> ((4 : Int32) &&& 31).toUInt32).toInt32) &&& (3 : Int32))), .val (.int ca), .val (.int (((ve.toUInt32 >>> ((6 : Int32) &&& 31).toUInt32).toInt32) &&& (3 : Int32))), .val (.int cb), .val (.long (own_make va ca)), .second, .val (.long (own_make ee cb)), .second, .val (.int ba), .val (.int bb), .val (.int bc), .val (.int bx)] [(.int (1 : Int32))]))
                refine own_Fin.go (fun t k => XS.goto X3.here hx rfl (pc0 := 229) (pc' := 233) rfl (hb hby at_229) (by decide) (by decide) k) ?_
                show own_Fin _ _ _ _ _ _ _ (T3.setTop (mkF m 233 #[.val (.int va), .val (.int vb), .val (.int vc), .val (.int vd), .val (.int ve), .val (.int ee), .val (.int (((ve.toUInt32 >>> ((4 : Int32) &&& 31).toUInt32).toInt32) &&& (3 : Int32))), .val (.int ca), .val (.int (((ve.toUInt32 >>> ((6 : Int32) &&& 31).toUInt32).toInt32) &&& (3 : Int32))), .val (.int cb), .val (.long (own_make va ca)), .second, .val (.long (own_make ee cb)), .second, .val (.int ba), .val (.int bb), .val (.int bc), .val (.int bx)] [(.int (1 : Int32))]))
                refine own_retN X3 hx (t := .boolean) (w := (1 : Int32)) Bd.returns (by simp) (hb hby at_233) Bd.notSynchronized rfl (by decide) (by decide) ?_
                rw [e3]
                exact ⟨rfl, N3⟩
              refine own_Fin.go (fun t k => XS.iload X2.here hx rfl (hb hby at_194) rfl k) ?_
              show own_Fin _ _ _ _ _ _ _ (T2.setTop (mkF m 196 #[.val (.int va), .val (.int vb), .val (.int vc), .val (.int vd), .val (.int ve), .val (.int ee), .val (.int (((ve.toUInt32 >>> ((4 : Int32) &&& 31).toUInt32).toInt32) &&& (3 : Int32))), .val (.int ca), .val (.int (((ve.toUInt32 >>> ((6 : Int32) &&& 31).toUInt32).toInt32) &&& (3 : Int32))), .val (.int cb), .val (.long (own_make va ca)), .second, .val (.long (own_make ee cb)), .second, .val (.int ba), .val (.int bb), .val (.int bc), .unset] [(.int ba)]))
              by_cases hc196 : ba = (0 : Int32)
              · refine own_Fin.go (fun t k => XS.ifNo X2.here hx rfl (hb hby at_196) rfl (Jvm.Free.XT.i0_ne_f hc196) k) ?_
                show own_Fin _ _ _ _ _ _ _ (T2.setTop (mkF m 199 #[.val (.int va), .val (.int vb), .val (.int vc), .val (.int vd), .val (.int ve), .val (.int ee), .val (.int (((ve.toUInt32 >>> ((4 : Int32) &&& 31).toUInt32).toInt32) &&& (3 : Int32))), .val (.int ca), .val (.int (((ve.toUInt32 >>> ((6 : Int32) &&& 31).toUInt32).toInt32) &&& (3 : Int32))), .val (.int cb), .val (.long (own_make va ca)), .second, .val (.long (own_make ee cb)), .second, .val (.int ba), .val (.int bb), .val (.int bc), .unset] []))
                refine own_Fin.go (fun t k => XS.iload X2.here hx rfl (hb hby at_199) rfl k) ?_
                show own_Fin _ _ _ _ _ _ _ (T2.setTop (mkF m 201 #[.val (.int va), .val (.int vb), .val (.int vc), .val (.int vd), .val (.int ve), .val (.int ee), .val (.int (((ve.toUInt32 >>> ((4 : Int32) &&& 31).toUInt32).toInt32) &&& (3 : Int32))), .val (.int ca), .val (.int (((ve.toUInt32 >>> ((6 : Int32) &&& 31).toUInt32).toInt32) &&& (3 : Int32))), .val (.int cb), .val (.long (own_make va ca)), .second, .val (.long (own_make ee cb)), .second, .val (.int ba), .val (.int bb), .val (.int bc), .unset] [(.int bb)]))
                by_cases hc201 : bb = (0 : Int32)
                · refine own_Fin.go (fun t k => XS.ifNo X2.here hx rfl (hb hby at_201) rfl (Jvm.Free.XT.i0_ne_f hc201) k) ?_
                  show own_Fin _ _ _ _ _ _ _ (T2.setTop (mkF m 204 #[.val (.int va), .val (.int vb), .val (.int vc), .val (.int vd), .val (.int ve), .val (.int ee), .val (.int (((ve.toUInt32 >>> ((4 : Int32) &&& 31).toUInt32).toInt32) &&& (3 : Int32))), .val (.int ca), .val (.int (((ve.toUInt32 >>> ((6 : Int32) &&& 31).toUInt32).toInt32) &&& (3 : Int32))), .val (.int cb), .val (.long (own_make va ca)), .second, .val (.long (own_make ee cb)), .second, .val (.int ba), .val (.int bb), .val (.int bc), .unset] []))
                  refine own_Fin.go (fun t k => XS.iload X2.here hx rfl (hb hby at_204) rfl k) ?_
                  show own_Fin _ _ _ _ _ _ _ (T2.setTop (mkF m 206 #[.val (.int va), .val (.int vb), .val (.int vc), .val (.int vd), .val (.int ve), .val (.int ee), .val (.int (((ve.toUInt32 >>> ((4 : Int32) &&& 31).toUInt32).toInt32) &&& (3 : Int32))), .val (.int ca), .val (.int (((ve.toUInt32 >>> ((6 : Int32) &&& 31).toUInt32).toInt32) &&& (3 : Int32))), .val (.int cb), .val (.long (own_make va ca)), .second, .val (.long (own_make ee cb)), .second, .val (.int ba), .val (.int bb), .val (.int bc), .unset] [(.int bc)]))
                  by_cases hc206 : bc = (0 : Int32)
                  · refine own_Fin.go (fun t k => XS.ifYes X2.here hx rfl (pc0 := 206) (pc' := 213) rfl (hb hby at_206) rfl (Jvm.Free.XT.i0_eq_t hc206) (by decide) (by decide) k) ?_
                    show own_Fin _ _ _ _ _ _ _ (T2.setTop (mkF m 213 #[.val (.int va), .val (.int vb), .val (.int vc), .val (.int vd), .val (.int ve), .val (.int ee), .val (.int (((ve.toUInt32 >>> ((4 : Int32) &&& 31).toUInt32).toInt32) &&& (3 : Int32))), .val (.int ca), .val (.int (((ve.toUInt32 >>> ((6 : Int32) &&& 31).toUInt32).toInt32) &&& (3 : Int32))), .val (.int cb), .val (.long (own_make va ca)), .second, .val (.long (own_make ee cb)), .second, .val (.int ba), .val (.int bb), .val (.int bc), .unset] []))
                    refine own_Fin.go (fun t k => XS.iconst X2.here hx rfl (hb hby at_213) k) ?_
                    show own_Fin _ _ _ _ _ _ _ (T2.setTop (mkF m 214 #[.val (.int va), .val (.int vb), .val (.int vc), .val (.int vd), .val (.int ve), .val (.int ee), .val (.int (((ve.toUInt32 >>> ((4 : Int32) &&& 31).toUInt32).toInt32) &&& (3 : Int32))), .val (.int ca), .val (.int (((ve.toUInt32 >>> ((6 : Int32) &&& 31).toUInt32).toInt32) &&& (3 : Int32))), .val (.int cb), .val (.long (own_make va ca)), .second, .val (.long (own_make ee cb)), .second, .val (.int ba), .val (.int bb), .val (.int bc), .unset] [(.int (0 : Int32))]))
                    exact J214 (0 : Int32) (by simp only [own_ex, if_pos hc196, if_pos hc201, if_pos hc206])
                  · refine own_Fin.go (fun t k => XS.ifNo X2.here hx rfl (hb hby at_206) rfl (Jvm.Free.XT.i0_eq_f hc206) k) ?_
                    show own_Fin _ _ _ _ _ _ _ (T2.setTop (mkF m 209 #[.val (.int va), .val (.int vb), .val (.int vc), .val (.int vd), .val (.int ve), .val (.int ee), .val (.int (((ve.toUInt32 >>> ((4 : Int32) &&& 31).toUInt32).toInt32) &&& (3 : Int32))), .val (.int ca), .val (.int (((ve.toUInt32 >>> ((6 : Int32) &&& 31).toUInt32).toInt32) &&& (3 : Int32))), .val (.int cb), .val (.long (own_make va ca)), .second, .val (.long (own_make ee cb)), .second, .val (.int ba), .val (.int bb), .val (.int bc), .unset] []))
                    refine own_Fin.go (fun t k => XS.iconst X2.here hx rfl (hb hby at_209) k) ?_
                    show own_Fin _ _ _ _ _ _ _ (T2.setTop (mkF m 210 #[.val (.int va), .val (.int vb), .val (.int vc), .val (.int vd), .val (.int ve), .val (.int ee), .val (.int (((ve.toUInt32 >>> ((4 : Int32) &&& 31).toUInt32).toInt32) &&& (3 : Int32))), .val (.int ca), .val (.int (((ve.toUInt32 >>> ((6 : Int32) &&& 31).toUInt32).toInt32) &&& (3 : Int32))), .val (.int cb), .val (.long (own_make va ca)), .second, .val (.long (own_make ee cb)), .second, .val (.int ba), .val (.int bb), .val (.int bc), .unset] [(.int (1 : Int32))]))
                    refine own_Fin.go (fun t k => XS.goto X2.here hx rfl (pc0 := 210) (pc' := 214) rfl (hb hby at_210) (by decide) (by decide) k) ?_
                    show own_Fin _ _ _ _ _ _ _ (T2.setTop (mkF m 214 #[.val (.int va), .val (.int vb), .val (.int vc), .val (.int vd), .val (.int ve), .val (.int ee), .val (.int (((ve.toUInt32 >>> ((4 : Int32) &&& 31).toUInt32).toInt32) &&& (3 : Int32))), .val (.int ca), .val (.int (((ve.toUInt32 >>> ((6 : Int32) &&& 31).toUInt32).toInt32) &&& (3 : Int32))), .val (.int cb), .val (.long (own_make va ca)), .second, .val (.long (own_make ee cb)), .second, .val (.int ba), .val (.int bb), .val (.int bc), .unset] [(.int (1 : Int32))]))
                    exact J214 (1 : Int32) (by simp only [own_ex, if_pos hc196, if_pos hc201, if_neg hc206])
                · refine own_Fin.go (fun t k => XS.ifYes X2.here hx rfl (pc0 := 201) (pc' := 209) rfl (hb hby at_201) rfl (Jvm.Free.XT.i0_ne_t hc201) (by decide) (by decide) k) ?_
                  show own_Fin _ _ _ _ _ _ _ (T2.setTop (mkF m 209 #[.val (.int va), .val (.int vb), .val (.int vc), .val (.int vd), .val (.int ve), .val (.int ee), .val (.int (((ve.toUInt32 >>> ((4 : Int32) &&& 31).toUInt32).toInt32) &&& (3 : Int32))), .val (.int ca), .val (.int (((ve.toUInt32 >>> ((6 : Int32) &&& 31).toUInt32).toInt32) &&& (3 : Int32))), .val (.int cb), .val (.long (own_make va ca)), .second, .val (.long (own_make ee cb)), .second, .val (.int ba), .val (.int bb), .val (.int bc), .unset] []))
                  refine own_Fin.go (fun t k => XS.iconst X2.here hx rfl (hb hby at_209) k) ?_
                  show own_Fin _ _ _ _ _ _ _ (T2.setTop (mkF m 210 #[.val (.int va), .val (.int vb), .val (.int vc), .val (.int vd), .val (.int ve), .val (.int ee), .val (.int (((ve.toUInt32 >>> ((4 : Int32) &&& 31).toUInt32).toInt32) &&& (3 : Int32))), .val (.int ca), .val (.int (((ve.toUInt32 >>> ((6 : Int32) &&& 31).toUInt32).toInt32) &&& (3 : Int32))), .val (.int cb), .val (.long (own_make va ca)), .second, .val (.long (own_make ee cb)), .second, .val (.int ba), .val (.int bb), .val (.int bc), .unset] [(.int (1 : Int32))]))
                  refine own_Fin.go (fun t k => XS.goto X2.here hx rfl (pc0 := 210) (pc' := 214) rfl (hb hby at_210) (by decide) (by decide) k) ?_
                  show own_Fin _ _ _ _ _ _ _ (T2.setTop (mkF m 214 #[.val (.int va), .val (.int vb), .val (.int vc), .val (.int vd), .val (.int ve), .val (.int ee), .val (.int (((ve.toUInt32 >>> ((4 : Int32) &&& 31).toUInt32).toInt32) &&& (3 : Int32))), .val (.int ca), .val (.int (((ve.toUInt32 >>> ((6 : Int32) &&& 31).toUInt32).toInt32) &&& (3 : Int32))), .val (.int cb), .val (.long (own_make va ca)), .second, .val (.long (own_make ee cb)), .second, .val (.int ba), .val (.int bb), .val (.int bc), .unset] [(.int (1 : Int32))]))
                  exact J214 (1 : Int32) (by simp only [own_ex, if_pos hc196, if_neg hc201])
              · refine own_Fin.go (fun t k => XS.ifYes X2.here hx rfl (pc0 := 196) (pc' := 209) rfl (hb hby at_196) rfl (Jvm.Free.XT.i0_ne_t hc196) (by decide) (by decide) k) ?_
                show own_Fin _ _ _ _ _ _ _ (T2.setTop (mkF m 209 #[.val (.int va), .val (.int vb), .val (.int vc), .val (.int vd), .val (.int ve), .val (.int ee), .val (.int (((ve.toUInt32 >>> ((4 : Int32) &&& 31).toUInt32).toInt32) &&& (3 : Int32))), .val (.int ca), .val (.int (((ve.toUInt32 >>> ((6 : Int32) &&& 31).toUInt32).toInt32) &&& (3 : Int32))), .val (.int cb), .val (.long (own_make va ca)), .second, .val (.long (own_make ee cb)), .second, .val (.int ba), .val (.int bb), .val (.int bc), .unset] []))
                refine own_Fin.go (fun t k => XS.iconst X2.here hx rfl (hb hby at_209) k) ?_
                show own_Fin _ _ _ _ _ _ _ (T2.setTop (mkF m 210 #[.val (.int va), .val (.int vb), .val (.int vc), .val (.int vd), .val (.int ve), .val (.int ee), .val (.int (((ve.toUInt32 >>> ((4 : Int32) &&& 31).toUInt32).toInt32) &&& (3 : Int32))), .val (.int ca), .val (.int (((ve.toUInt32 >>> ((6 : Int32) &&& 31).toUInt32).toInt32) &&& (3 : Int32))), .val (.int cb), .val (.long (own_make va ca)), .second, .val (.long (own_make ee cb)), .second, .val (.int ba), .val (.int bb), .val (.int bc), .unset] [(.int (1 : Int32))]))
                refine own_Fin.go (fun t k => XS.goto X2.here hx rfl (pc0 := 210) (pc' := 214) rfl (hb hby at_210) (by decide) (by decide) k) ?_
                show own_Fin _ _ _ _ _ _ _ (T2.setTop (mkF m 214 #[.val (.int va), .val (.int vb), .val (.int vc), .val (.int vd), .val (.int ve), .val (.int ee), .val (.int (((ve.toUInt32 >>> ((4 : Int32) &&& 31).toUInt32).toInt32) &&& (3 : Int32))), .val (.int ca), .val (.int (((ve.toUInt32 >>> ((6 : Int32) &&& 31).toUInt32).toInt32) &&& (3 : Int32))), .val (.int cb), .val (.long (own_make va ca)), .second, .val (.long (own_make ee cb)), .second, .val (.int ba), .val (.int bb), .val (.int bc), .unset] [(.int (1 : Int32))]))
                exact J214 (1 : Int32) (by simp only [own_ex, if_neg hc196])
            refine own_Fin.go (fun t k => XS.iloadN X2.here hx rfl (hb hby at_169) rfl k) ?_
            show own_Fin _ _ _ _ _ _ _ (T2.setTop (mkF m 170 #[.val (.int va), .val (.int vb), .val (.int vc), .val (.int vd), .val (.int ve), .val (.int ee), .val (.int (((ve.toUInt32 >>> ((4 : Int32) &&& 31).toUInt32).toInt32) &&& (3 : Int32))), .val (.int ca), .val (.int (((ve.toUInt32 >>> ((6 : Int32) &&& 31).toUInt32).toInt32) &&& (3 : Int32))), .val (.int cb), .val (.long (own_make va ca)), .second, .val (.long (own_make ee cb)), .second, .val (.int ba), .val (.int bb), .unset, .unset] [(.int va)]))
            refine own_Fin.go (fun t k => X2.ldcInt hx hown (mvT hZ (hw _ (List.mem_of_getElem? (i := 5) rfl))) (g := (mkF m 170 #[.val (.int va), .val (.int vb), .val (.int vc), .val (.int vd), .val (.int ve), .val (.int ee), .val (.int (((ve.toUInt32 >>> ((4 : Int32) &&& 31).toUInt32).toInt32) &&& (3 : Int32))), .val (.int ca), .val (.int (((ve.toUInt32 >>> ((6 : Int32) &&& 31).toUInt32).toInt32) &&& (3 : Int32))), .val (.int cb), .val (.long (own_make va ca)), .second, .val (.long (own_make ee cb)), .second, .val (.int ba), .val (.int bb), .unset, .unset] [(.int va)])) rfl (hb hby at_170) t k) ?_
            show own_Fin _ _ _ _ _ _ _ (T2.setTop (mkF m 172 #[.val (.int va), .val (.int vb), .val (.int vc), .val (.int vd), .val (.int ve), .val (.int ee), .val (.int (((ve.toUInt32 >>> ((4 : Int32) &&& 31).toUInt32).toInt32) &&& (3 : Int32))), .val (.int ca), .val (.int (((ve.toUInt32 >>> ((6 : Int32) &&& 31).toUInt32).toInt32) &&& (3 : Int32))), .val (.int cb), .val (.long (own_make va ca)), .second, .val (.long (own_make ee cb)), .second, .val (.int ba), .val (.int bb), .unset, .unset] [(.int (-2147483648 : Int32)), (.int va)]))
            refine own_Fin.go (fun t k => XS.ixor X2.here hx rfl (hb hby at_172) rfl k) ?_
            show own_Fin _ _ _ _ _ _ _ (T2.setTop (mkF m 173 #[.val (.int va), .val (.int vb), .val (.int vc), .val (.int vd), .val (.int ve), .val (.int ee), .val (.int (((ve.toUInt32 >>> ((4 : Int32) &&& 31).toUInt32).toInt32) &&& (3 : Int32))), .val (.int ca), .val (.int (((ve.toUInt32 >>> ((6 : Int32) &&& 31).toUInt32).toInt32) &&& (3 : Int32))), .val (.int cb), .val (.long (own_make va ca)), .second, .val (.long (own_make ee cb)), .second, .val (.int ba), .val (.int bb), .unset, .unset] [(.int (va ^^^ (-2147483648 : Int32)))]))
            refine own_Fin.go (fun t k => XS.iload X2.here hx rfl (hb hby at_173) rfl k) ?_
            show own_Fin _ _ _ _ _ _ _ (T2.setTop (mkF m 175 #[.val (.int va), .val (.int vb), .val (.int vc), .val (.int vd), .val (.int ve), .val (.int ee), .val (.int (((ve.toUInt32 >>> ((4 : Int32) &&& 31).toUInt32).toInt32) &&& (3 : Int32))), .val (.int ca), .val (.int (((ve.toUInt32 >>> ((6 : Int32) &&& 31).toUInt32).toInt32) &&& (3 : Int32))), .val (.int cb), .val (.long (own_make va ca)), .second, .val (.long (own_make ee cb)), .second, .val (.int ba), .val (.int bb), .unset, .unset] [(.int ee), (.int (va ^^^ (-2147483648 : Int32)))]))
            refine own_Fin.go (fun t k => X2.ldcInt hx hown (mvT hZ (hw _ (List.mem_of_getElem? (i := 5) rfl))) (g := (mkF m 175 #[.val (.int va), .val (.int vb), .val (.int vc), .val (.int vd), .val (.int ve), .val (.int ee), .val (.int (((ve.toUInt32 >>> ((4 : Int32) &&& 31).toUInt32).toInt32) &&& (3 : Int32))), .val (.int ca), .val (.int (((ve.toUInt32 >>> ((6 : Int32) &&& 31).toUInt32).toInt32) &&& (3 : Int32))), .val (.int cb), .val (.long (own_make va ca)), .second, .val (.long (own_make ee cb)), .second, .val (.int ba), .val (.int bb), .unset, .unset] [(.int ee), (.int (va ^^^ (-2147483648 : Int32)))])) rfl (hb hby at_175) t k) ?_
            show own_Fin _ _ _ _ _ _ _ (T2.setTop (mkF m 177 #[.val (.int va), .val (.int vb), .val (.int vc), .val (.int vd), .val (.int ve), .val (.int ee), .val (.int (((ve.toUInt32 >>> ((4 : Int32) &&& 31).toUInt32).toInt32) &&& (3 : Int32))), .val (.int ca), .val (.int (((ve.toUInt32 >>> ((6 : Int32) &&& 31).toUInt32).toInt32) &&& (3 : Int32))), .val (.int cb), .val (.long (own_make va ca)), .second, .val (.long (own_make ee cb)), .second, .val (.int ba), .val (.int bb), .unset, .unset] [(.int (-2147483648 : Int32)), (.int ee), (.int (va ^^^ (-2147483648 : Int32)))]))
            refine own_Fin.go (fun t k => XS.ixor X2.here hx rfl (hb hby at_177) rfl k) ?_
            show own_Fin _ _ _ _ _ _ _ (T2.setTop (mkF m 178 #[.val (.int va), .val (.int vb), .val (.int vc), .val (.int vd), .val (.int ve), .val (.int ee), .val (.int (((ve.toUInt32 >>> ((4 : Int32) &&& 31).toUInt32).toInt32) &&& (3 : Int32))), .val (.int ca), .val (.int (((ve.toUInt32 >>> ((6 : Int32) &&& 31).toUInt32).toInt32) &&& (3 : Int32))), .val (.int cb), .val (.long (own_make va ca)), .second, .val (.long (own_make ee cb)), .second, .val (.int ba), .val (.int bb), .unset, .unset] [(.int (ee ^^^ (-2147483648 : Int32))), (.int (va ^^^ (-2147483648 : Int32)))]))
            by_cases hc178 : (ee ^^^ (-2147483648 : Int32)) < (va ^^^ (-2147483648 : Int32))
            · refine own_Fin.go (fun t k => XS.icmpNo X2.here hx rfl (hb hby at_178) rfl (Jvm.Free.XT.ii_le_f hc178) k) ?_
              show own_Fin _ _ _ _ _ _ _ (T2.setTop (mkF m 181 #[.val (.int va), .val (.int vb), .val (.int vc), .val (.int vd), .val (.int ve), .val (.int ee), .val (.int (((ve.toUInt32 >>> ((4 : Int32) &&& 31).toUInt32).toInt32) &&& (3 : Int32))), .val (.int ca), .val (.int (((ve.toUInt32 >>> ((6 : Int32) &&& 31).toUInt32).toInt32) &&& (3 : Int32))), .val (.int cb), .val (.long (own_make va ca)), .second, .val (.long (own_make ee cb)), .second, .val (.int ba), .val (.int bb), .unset, .unset] []))
              refine own_Fin.go (fun t k => XS.iload X2.here hx rfl (hb hby at_181) rfl k) ?_
              show own_Fin _ _ _ _ _ _ _ (T2.setTop (mkF m 183 #[.val (.int va), .val (.int vb), .val (.int vc), .val (.int vd), .val (.int ve), .val (.int ee), .val (.int (((ve.toUInt32 >>> ((4 : Int32) &&& 31).toUInt32).toInt32) &&& (3 : Int32))), .val (.int ca), .val (.int (((ve.toUInt32 >>> ((6 : Int32) &&& 31).toUInt32).toInt32) &&& (3 : Int32))), .val (.int cb), .val (.long (own_make va ca)), .second, .val (.long (own_make ee cb)), .second, .val (.int ba), .val (.int bb), .unset, .unset] [(.int ca)]))
              refine own_Fin.go (fun t k => XS.iconst X2.here hx rfl (hb hby at_183) k) ?_
              show own_Fin _ _ _ _ _ _ _ (T2.setTop (mkF m 184 #[.val (.int va), .val (.int vb), .val (.int vc), .val (.int vd), .val (.int ve), .val (.int ee), .val (.int (((ve.toUInt32 >>> ((4 : Int32) &&& 31).toUInt32).toInt32) &&& (3 : Int32))), .val (.int ca), .val (.int (((ve.toUInt32 >>> ((6 : Int32) &&& 31).toUInt32).toInt32) &&& (3 : Int32))), .val (.int cb), .val (.long (own_make va ca)), .second, .val (.long (own_make ee cb)), .second, .val (.int ba), .val (.int bb), .unset, .unset] [(.int (1 : Int32)), (.int ca)]))
              by_cases hc184 : ca = (1 : Int32)
              · refine own_Fin.go (fun t k => XS.icmpNo X2.here hx rfl (hb hby at_184) rfl (Jvm.Free.XT.ii_ne_f hc184) k) ?_
                show own_Fin _ _ _ _ _ _ _ (T2.setTop (mkF m 187 #[.val (.int va), .val (.int vb), .val (.int vc), .val (.int vd), .val (.int ve), .val (.int ee), .val (.int (((ve.toUInt32 >>> ((4 : Int32) &&& 31).toUInt32).toInt32) &&& (3 : Int32))), .val (.int ca), .val (.int (((ve.toUInt32 >>> ((6 : Int32) &&& 31).toUInt32).toInt32) &&& (3 : Int32))), .val (.int cb), .val (.long (own_make va ca)), .second, .val (.long (own_make ee cb)), .second, .val (.int ba), .val (.int bb), .unset, .unset] []))
                refine own_Fin.go (fun t k => XS.iconst X2.here hx rfl (hb hby at_187) k) ?_
                show own_Fin _ _ _ _ _ _ _ (T2.setTop (mkF m 188 #[.val (.int va), .val (.int vb), .val (.int vc), .val (.int vd), .val (.int ve), .val (.int ee), .val (.int (((ve.toUInt32 >>> ((4 : Int32) &&& 31).toUInt32).toInt32) &&& (3 : Int32))), .val (.int ca), .val (.int (((ve.toUInt32 >>> ((6 : Int32) &&& 31).toUInt32).toInt32) &&& (3 : Int32))), .val (.int cb), .val (.long (own_make va ca)), .second, .val (.long (own_make ee cb)), .second, .val (.int ba), .val (.int bb), .unset, .unset] [(.int (1 : Int32))]))
                refine own_Fin.go (fun t k => XS.goto X2.here hx rfl (pc0 := 188) (pc' := 192) rfl (hb hby at_188) (by decide) (by decide) k) ?_
                show own_Fin _ _ _ _ _ _ _ (T2.setTop (mkF m 192 #[.val (.int va), .val (.int vb), .val (.int vc), .val (.int vd), .val (.int ve), .val (.int ee), .val (.int (((ve.toUInt32 >>> ((4 : Int32) &&& 31).toUInt32).toInt32) &&& (3 : Int32))), .val (.int ca), .val (.int (((ve.toUInt32 >>> ((6 : Int32) &&& 31).toUInt32).toInt32) &&& (3 : Int32))), .val (.int cb), .val (.long (own_make va ca)), .second, .val (.long (own_make ee cb)), .second, .val (.int ba), .val (.int bb), .unset, .unset] [(.int (1 : Int32))]))
                exact J192 (1 : Int32) (by simp only [own_bc, if_pos hc178, if_pos hc184])
              · refine own_Fin.go (fun t k => XS.icmpYes X2.here hx rfl (pc0 := 184) (pc' := 191) rfl (hb hby at_184) rfl (Jvm.Free.XT.ii_ne_t hc184) (by decide) (by decide) k) ?_
                show own_Fin _ _ _ _ _ _ _ (T2.setTop (mkF m 191 #[.val (.int va), .val (.int vb), .val (.int vc), .val (.int vd), .val (.int ve), .val (.int ee), .val (.int (((ve.toUInt32 >>> ((4 : Int32) &&& 31).toUInt32).toInt32) &&& (3 : Int32))), .val (.int ca), .val (.int (((ve.toUInt32 >>> ((6 : Int32) &&& 31).toUInt32).toInt32) &&& (3 : Int32))), .val (.int cb), .val (.long (own_make va ca)), .second, .val (.long (own_make ee cb)), .second, .val (.int ba), .val (.int bb), .unset, .unset] []))
                refine own_Fin.go (fun t k => XS.iconst X2.here hx rfl (hb hby at_191) k) ?_
                show own_Fin _ _ _ _ _ _ _ (T2.setTop (mkF m 192 #[.val (.int va), .val (.int vb), .val (.int vc), .val (.int vd), .val (.int ve), .val (.int ee), .val (.int (((ve.toUInt32 >>> ((4 : Int32) &&& 31).toUInt32).toInt32) &&& (3 : Int32))), .val (.int ca), .val (.int (((ve.toUInt32 >>> ((6 : Int32) &&& 31).toUInt32).toInt32) &&& (3 : Int32))), .val (.int cb), .val (.long (own_make va ca)), .second, .val (.long (own_make ee cb)), .second, .val (.int ba), .val (.int bb), .unset, .unset] [(.int (0 : Int32))]))
                exact J192 (0 : Int32) (by simp only [own_bc, if_pos hc178, if_neg hc184])
            · refine own_Fin.go (fun t k => XS.icmpYes X2.here hx rfl (pc0 := 178) (pc' := 191) rfl (hb hby at_178) rfl (Jvm.Free.XT.ii_le_t hc178) (by decide) (by decide) k) ?_
              show own_Fin _ _ _ _ _ _ _ (T2.setTop (mkF m 191 #[.val (.int va), .val (.int vb), .val (.int vc), .val (.int vd), .val (.int ve), .val (.int ee), .val (.int (((ve.toUInt32 >>> ((4 : Int32) &&& 31).toUInt32).toInt32) &&& (3 : Int32))), .val (.int ca), .val (.int (((ve.toUInt32 >>> ((6 : Int32) &&& 31).toUInt32).toInt32) &&& (3 : Int32))), .val (.int cb), .val (.long (own_make va ca)), .second, .val (.long (own_make ee cb)), .second, .val (.int ba), .val (.int bb), .unset, .unset] []))
              refine own_Fin.go (fun t k => XS.iconst X2.here hx rfl (hb hby at_191) k) ?_
              show own_Fin _ _ _ _ _ _ _ (T2.setTop (mkF m 192 #[.val (.int va), .val (.int vb), .val (.int vc), .val (.int vd), .val (.int ve), .val (.int ee), .val (.int (((ve.toUInt32 >>> ((4 : Int32) &&& 31).toUInt32).toInt32) &&& (3 : Int32))), .val (.int ca), .val (.int (((ve.toUInt32 >>> ((6 : Int32) &&& 31).toUInt32).toInt32) &&& (3 : Int32))), .val (.int cb), .val (.long (own_make va ca)), .second, .val (.long (own_make ee cb)), .second, .val (.int ba), .val (.int bb), .unset, .unset] [(.int (0 : Int32))]))
              exact J192 (0 : Int32) (by simp only [own_bc, if_neg hc178])
          refine own_Fin.go (fun t k => XS.iload X2.here hx rfl (hb hby at_143) rfl k) ?_
          show own_Fin _ _ _ _ _ _ _ (T2.setTop (mkF m 145 #[.val (.int va), .val (.int vb), .val (.int vc), .val (.int vd), .val (.int ve), .val (.int ee), .val (.int (((ve.toUInt32 >>> ((4 : Int32) &&& 31).toUInt32).toInt32) &&& (3 : Int32))), .val (.int ca), .val (.int (((ve.toUInt32 >>> ((6 : Int32) &&& 31).toUInt32).toInt32) &&& (3 : Int32))), .val (.int cb), .val (.long (own_make va ca)), .second, .val (.long (own_make ee cb)), .second, .val (.int ba), .unset, .unset, .unset] [(.int cb)]))
          refine own_Fin.go (fun t k => XS.iconst X2.here hx rfl (hb hby at_145) k) ?_
          show own_Fin _ _ _ _ _ _ _ (T2.setTop (mkF m 146 #[.val (.int va), .val (.int vb), .val (.int vc), .val (.int vd), .val (.int ve), .val (.int ee), .val (.int (((ve.toUInt32 >>> ((4 : Int32) &&& 31).toUInt32).toInt32) &&& (3 : Int32))), .val (.int ca), .val (.int (((ve.toUInt32 >>> ((6 : Int32) &&& 31).toUInt32).toInt32) &&& (3 : Int32))), .val (.int cb), .val (.long (own_make va ca)), .second, .val (.long (own_make ee cb)), .second, .val (.int ba), .unset, .unset, .unset] [(.int (-1 : Int32)), (.int cb)]))
          by_cases hc146 : cb = (-1 : Int32)
          · refine own_Fin.go (fun t k => XS.icmpNo X2.here hx rfl (hb hby at_146) rfl (Jvm.Free.XT.ii_ne_f hc146) k) ?_
            show own_Fin _ _ _ _ _ _ _ (T2.setTop (mkF m 149 #[.val (.int va), .val (.int vb), .val (.int vc), .val (.int vd), .val (.int ve), .val (.int ee), .val (.int (((ve.toUInt32 >>> ((4 : Int32) &&& 31).toUInt32).toInt32) &&& (3 : Int32))), .val (.int ca), .val (.int (((ve.toUInt32 >>> ((6 : Int32) &&& 31).toUInt32).toInt32) &&& (3 : Int32))), .val (.int cb), .val (.long (own_make va ca)), .second, .val (.long (own_make ee cb)), .second, .val (.int ba), .unset, .unset, .unset] []))
            refine own_Fin.go (fun t k => XS.iload X2.here hx rfl (hb hby at_149) rfl k) ?_
            show own_Fin _ _ _ _ _ _ _ (T2.setTop (mkF m 151 #[.val (.int va), .val (.int vb), .val (.int vc), .val (.int vd), .val (.int ve), .val (.int ee), .val (.int (((ve.toUInt32 >>> ((4 : Int32) &&& 31).toUInt32).toInt32) &&& (3 : Int32))), .val (.int ca), .val (.int (((ve.toUInt32 >>> ((6 : Int32) &&& 31).toUInt32).toInt32) &&& (3 : Int32))), .val (.int cb), .val (.long (own_make va ca)), .second, .val (.long (own_make ee cb)), .second, .val (.int ba), .unset, .unset, .unset] [(.int ca)]))
            by_cases hc151 : ca = (0 : Int32)
            · refine own_Fin.go (fun t k => XS.ifNo X2.here hx rfl (hb hby at_151) rfl (Jvm.Free.XT.i0_ne_f hc151) k) ?_
              show own_Fin _ _ _ _ _ _ _ (T2.setTop (mkF m 154 #[.val (.int va), .val (.int vb), .val (.int vc), .val (.int vd), .val (.int ve), .val (.int ee), .val (.int (((ve.toUInt32 >>> ((4 : Int32) &&& 31).toUInt32).toInt32) &&& (3 : Int32))), .val (.int ca), .val (.int (((ve.toUInt32 >>> ((6 : Int32) &&& 31).toUInt32).toInt32) &&& (3 : Int32))), .val (.int cb), .val (.long (own_make va ca)), .second, .val (.long (own_make ee cb)), .second, .val (.int ba), .unset, .unset, .unset] []))
              refine own_Fin.go (fun t k => XS.iloadN X2.here hx rfl (hb hby at_154) rfl k) ?_
              show own_Fin _ _ _ _ _ _ _ (T2.setTop (mkF m 155 #[.val (.int va), .val (.int vb), .val (.int vc), .val (.int vd), .val (.int ve), .val (.int ee), .val (.int (((ve.toUInt32 >>> ((4 : Int32) &&& 31).toUInt32).toInt32) &&& (3 : Int32))), .val (.int ca), .val (.int (((ve.toUInt32 >>> ((6 : Int32) &&& 31).toUInt32).toInt32) &&& (3 : Int32))), .val (.int cb), .val (.long (own_make va ca)), .second, .val (.long (own_make ee cb)), .second, .val (.int ba), .unset, .unset, .unset] [(.int va)]))
              refine own_Fin.go (fun t k => XS.iload X2.here hx rfl (hb hby at_155) rfl k) ?_
              show own_Fin _ _ _ _ _ _ _ (T2.setTop (mkF m 157 #[.val (.int va), .val (.int vb), .val (.int vc), .val (.int vd), .val (.int ve), .val (.int ee), .val (.int (((ve.toUInt32 >>> ((4 : Int32) &&& 31).toUInt32).toInt32) &&& (3 : Int32))), .val (.int ca), .val (.int (((ve.toUInt32 >>> ((6 : Int32) &&& 31).toUInt32).toInt32) &&& (3 : Int32))), .val (.int cb), .val (.long (own_make va ca)), .second, .val (.long (own_make ee cb)), .second, .val (.int ba), .unset, .unset, .unset] [(.int ee), (.int va)]))
              refine own_Fin.go (fun t k => XS.iconst X2.here hx rfl (hb hby at_157) k) ?_
              show own_Fin _ _ _ _ _ _ _ (T2.setTop (mkF m 158 #[.val (.int va), .val (.int vb), .val (.int vc), .val (.int vd), .val (.int ve), .val (.int ee), .val (.int (((ve.toUInt32 >>> ((4 : Int32) &&& 31).toUInt32).toInt32) &&& (3 : Int32))), .val (.int ca), .val (.int (((ve.toUInt32 >>> ((6 : Int32) &&& 31).toUInt32).toInt32) &&& (3 : Int32))), .val (.int cb), .val (.long (own_make va ca)), .second, .val (.long (own_make ee cb)), .second, .val (.int ba), .unset, .unset, .unset] [(.int (1 : Int32)), (.int ee), (.int va)]))
              refine own_Fin.go (fun t k => XS.iadd X2.here hx rfl (hb hby at_158) rfl k) ?_
              show own_Fin _ _ _ _ _ _ _ (T2.setTop (mkF m 159 #[.val (.int va), .val (.int vb), .val (.int vc), .val (.int vd), .val (.int ve), .val (.int ee), .val (.int (((ve.toUInt32 >>> ((4 : Int32) &&& 31).toUInt32).toInt32) &&& (3 : Int32))), .val (.int ca), .val (.int (((ve.toUInt32 >>> ((6 : Int32) &&& 31).toUInt32).toInt32) &&& (3 : Int32))), .val (.int cb), .val (.long (own_make va ca)), .second, .val (.long (own_make ee cb)), .second, .val (.int ba), .unset, .unset, .unset] [(.int (ee + (1 : Int32))), (.int va)]))
              by_cases hc159 : va = (ee + (1 : Int32))
              · refine own_Fin.go (fun t k => XS.icmpNo X2.here hx rfl (hb hby at_159) rfl (Jvm.Free.XT.ii_ne_f hc159) k) ?_
                show own_Fin _ _ _ _ _ _ _ (T2.setTop (mkF m 162 #[.val (.int va), .val (.int vb), .val (.int vc), .val (.int vd), .val (.int ve), .val (.int ee), .val (.int (((ve.toUInt32 >>> ((4 : Int32) &&& 31).toUInt32).toInt32) &&& (3 : Int32))), .val (.int ca), .val (.int (((ve.toUInt32 >>> ((6 : Int32) &&& 31).toUInt32).toInt32) &&& (3 : Int32))), .val (.int cb), .val (.long (own_make va ca)), .second, .val (.long (own_make ee cb)), .second, .val (.int ba), .unset, .unset, .unset] []))
                refine own_Fin.go (fun t k => XS.iconst X2.here hx rfl (hb hby at_162) k) ?_
                show own_Fin _ _ _ _ _ _ _ (T2.setTop (mkF m 163 #[.val (.int va), .val (.int vb), .val (.int vc), .val (.int vd), .val (.int ve), .val (.int ee), .val (.int (((ve.toUInt32 >>> ((4 : Int32) &&& 31).toUInt32).toInt32) &&& (3 : Int32))), .val (.int ca), .val (.int (((ve.toUInt32 >>> ((6 : Int32) &&& 31).toUInt32).toInt32) &&& (3 : Int32))), .val (.int cb), .val (.long (own_make va ca)), .second, .val (.long (own_make ee cb)), .second, .val (.int ba), .unset, .unset, .unset] [(.int (1 : Int32))]))
                refine own_Fin.go (fun t k => XS.goto X2.here hx rfl (pc0 := 163) (pc' := 167) rfl (hb hby at_163) (by decide) (by decide) k) ?_
                show own_Fin _ _ _ _ _ _ _ (T2.setTop (mkF m 167 #[.val (.int va), .val (.int vb), .val (.int vc), .val (.int vd), .val (.int ve), .val (.int ee), .val (.int (((ve.toUInt32 >>> ((4 : Int32) &&& 31).toUInt32).toInt32) &&& (3 : Int32))), .val (.int ca), .val (.int (((ve.toUInt32 >>> ((6 : Int32) &&& 31).toUInt32).toInt32) &&& (3 : Int32))), .val (.int cb), .val (.long (own_make va ca)), .second, .val (.long (own_make ee cb)), .second, .val (.int ba), .unset, .unset, .unset] [(.int (1 : Int32))]))
                exact J167 (1 : Int32) (by simp only [own_bb, if_pos hc146, if_pos hc151, if_pos hc159])
              · refine own_Fin.go (fun t k => XS.icmpYes X2.here hx rfl (pc0 := 159) (pc' := 166) rfl (hb hby at_159) rfl (Jvm.Free.XT.ii_ne_t hc159) (by decide) (by decide) k) ?_
                show own_Fin _ _ _ _ _ _ _ (T2.setTop (mkF m 166 #[.val (.int va), .val (.int vb), .val (.int vc), .val (.int vd), .val (.int ve), .val (.int ee), .val (.int (((ve.toUInt32 >>> ((4 : Int32) &&& 31).toUInt32).toInt32) &&& (3 : Int32))), .val (.int ca), .val (.int (((ve.toUInt32 >>> ((6 : Int32) &&& 31).toUInt32).toInt32) &&& (3 : Int32))), .val (.int cb), .val (.long (own_make va ca)), .second, .val (.long (own_make ee cb)), .second, .val (.int ba), .unset, .unset, .unset] []))
                refine own_Fin.go (fun t k => XS.iconst X2.here hx rfl (hb hby at_166) k) ?_
                show own_Fin _ _ _ _ _ _ _ (T2.setTop (mkF m 167 #[.val (.int va), .val (.int vb), .val (.int vc), .val (.int vd), .val (.int ve), .val (.int ee), .val (.int (((ve.toUInt32 >>> ((4 : Int32) &&& 31).toUInt32).toInt32) &&& (3 : Int32))), .val (.int ca), .val (.int (((ve.toUInt32 >>> ((6 : Int32) &&& 31).toUInt32).toInt32) &&& (3 : Int32))), .val (.int cb), .val (.long (own_make va ca)), .second, .val (.long (own_make ee cb)), .second, .val (.int ba), .unset, .unset, .unset] [(.int (0 : Int32))]))
                exact J167 (0 : Int32) (by simp only [own_bb, if_pos hc146, if_pos hc151, if_neg hc159])
            · refine own_Fin.go (fun t k => XS.ifYes X2.here hx rfl (pc0 := 151) (pc' := 166) rfl (hb hby at_151) rfl (Jvm.Free.XT.i0_ne_t hc151) (by decide) (by decide) k) ?_
              show own_Fin _ _ _ _ _ _ _ (T2.setTop (mkF m 166 #[.val (.int va), .val (.int vb), .val (.int vc), .val (.int vd), .val (.int ve), .val (.int ee), .val (.int (((ve.toUInt32 >>> ((4 : Int32) &&& 31).toUInt32).toInt32) &&& (3 : Int32))), .val (.int ca), .val (.int (((ve.toUInt32 >>> ((6 : Int32) &&& 31).toUInt32).toInt32) &&& (3 : Int32))), .val (.int cb), .val (.long (own_make va ca)), .second, .val (.long (own_make ee cb)), .second, .val (.int ba), .unset, .unset, .unset] []))
              refine own_Fin.go (fun t k => XS.iconst X2.here hx rfl (hb hby at_166) k) ?_
              show own_Fin _ _ _ _ _ _ _ (T2.setTop (mkF m 167 #[.val (.int va), .val (.int vb), .val (.int vc), .val (.int vd), .val (.int ve), .val (.int ee), .val (.int (((ve.toUInt32 >>> ((4 : Int32) &&& 31).toUInt32).toInt32) &&& (3 : Int32))), .val (.int ca), .val (.int (((ve.toUInt32 >>> ((6 : Int32) &&& 31).toUInt32).toInt32) &&& (3 : Int32))), .val (.int cb), .val (.long (own_make va ca)), .second, .val (.long (own_make ee cb)), .second, .val (.int ba), .unset, .unset, .unset] [(.int (0 : Int32))]))
              exact J167 (0 : Int32) (by simp only [own_bb, if_pos hc146, if_neg hc151])
          · refine own_Fin.go (fun t k => XS.icmpYes X2.here hx rfl (pc0 := 146) (pc' := 166) rfl (hb hby at_146) rfl (Jvm.Free.XT.ii_ne_t hc146) (by decide) (by decide) k) ?_
            show own_Fin _ _ _ _ _ _ _ (T2.setTop (mkF m 166 #[.val (.int va), .val (.int vb), .val (.int vc), .val (.int vd), .val (.int ve), .val (.int ee), .val (.int (((ve.toUInt32 >>> ((4 : Int32) &&& 31).toUInt32).toInt32) &&& (3 : Int32))), .val (.int ca), .val (.int (((ve.toUInt32 >>> ((6 : Int32) &&& 31).toUInt32).toInt32) &&& (3 : Int32))), .val (.int cb), .val (.long (own_make va ca)), .second, .val (.long (own_make ee cb)), .second, .val (.int ba), .unset, .unset, .unset] []))
            refine own_Fin.go (fun t k => XS.iconst X2.here hx rfl (hb hby at_166) k) ?_
            show own_Fin _ _ _ _ _ _ _ (T2.setTop (mkF m 167 #[.val (.int va), .val (.int vb), .val (.int vc), .val (.int vd), .val (.int ve), .val (.int ee), .val (.int (((ve.toUInt32 >>> ((4 : Int32) &&& 31).toUInt32).toInt32) &&& (3 : Int32))), .val (.int ca), .val (.int (((ve.toUInt32 >>> ((6 : Int32) &&& 31).toUInt32).toInt32) &&& (3 : Int32))), .val (.int cb), .val (.long (own_make va ca)), .second, .val (.long (own_make ee cb)), .second, .val (.int ba), .unset, .unset, .unset] [(.int (0 : Int32))]))
            exact J167 (0 : Int32) (by simp only [own_bb, if_neg hc146])
        refine own_Fin.go (fun t k => XS.iloadN X2.here hx rfl (hb hby at_115) rfl k) ?_
        show own_Fin _ _ _ _ _ _ _ (T2.setTop (mkF m 116 #[.val (.int va), .val (.int vb), .val (.int vc), .val (.int vd), .val (.int ve), .val (.int ee), .val (.int (((ve.toUInt32 >>> ((4 : Int32) &&& 31).toUInt32).toInt32) &&& (3 : Int32))), .val (.int ca), .val (.int (((ve.toUInt32 >>> ((6 : Int32) &&& 31).toUInt32).toInt32) &&& (3 : Int32))), .val (.int cb), .val (.long (own_make va ca)), .second, .val (.long (own_make ee cb)), .second, .unset, .unset, .unset, .unset] [(.int va)]))
        refine own_Fin.go (fun t k => XS.iload X2.here hx rfl (hb hby at_116) rfl k) ?_
        show own_Fin _ _ _ _ _ _ _ (T2.setTop (mkF m 118 #[.val (.int va), .val (.int vb), .val (.int vc), .val (.int vd), .val (.int ve), .val (.int ee), .val (.int (((ve.toUInt32 >>> ((4 : Int32) &&& 31).toUInt32).toInt32) &&& (3 : Int32))), .val (.int ca), .val (.int (((ve.toUInt32 >>> ((6 : Int32) &&& 31).toUInt32).toInt32) &&& (3 : Int32))), .val (.int cb), .val (.long (own_make va ca)), .second, .val (.long (own_make ee cb)), .second, .unset, .unset, .unset, .unset] [(.int ee), (.int va)]))
        by_cases hc118 : va = ee
        · refine own_Fin.go (fun t k => XS.icmpNo X2.here hx rfl (hb hby at_118) rfl (Jvm.Free.XT.ii_ne_f hc118) k) ?_
          show own_Fin _ _ _ _ _ _ _ (T2.setTop (mkF m 121 #[.val (.int va), .val (.int vb), .val (.int vc), .val (.int vd), .val (.int ve), .val (.int ee), .val (.int (((ve.toUInt32 >>> ((4 : Int32) &&& 31).toUInt32).toInt32) &&& (3 : Int32))), .val (.int ca), .val (.int (((ve.toUInt32 >>> ((6 : Int32) &&& 31).toUInt32).toInt32) &&& (3 : Int32))), .val (.int cb), .val (.long (own_make va ca)), .second, .val (.long (own_make ee cb)), .second, .unset, .unset, .unset, .unset] []))
          refine own_Fin.go (fun t k => XS.iload X2.here hx rfl (hb hby at_121) rfl k) ?_
          show own_Fin _ _ _ _ _ _ _ (T2.setTop (mkF m 123 #[.val (.int va), .val (.int vb), .val (.int vc), .val (.int vd), .val (.int ve), .val (.int ee), .val (.int (((ve.toUInt32 >>> ((4 : Int32) &&& 31).toUInt32).toInt32) &&& (3 : Int32))), .val (.int ca), .val (.int (((ve.toUInt32 >>> ((6 : Int32) &&& 31).toUInt32).toInt32) &&& (3 : Int32))), .val (.int cb), .val (.long (own_make va ca)), .second, .val (.long (own_make ee cb)), .second, .unset, .unset, .unset, .unset] [(.int cb)]))
          refine own_Fin.go (fun t k => XS.iconst X2.here hx rfl (hb hby at_123) k) ?_
          show own_Fin _ _ _ _ _ _ _ (T2.setTop (mkF m 124 #[.val (.int va), .val (.int vb), .val (.int vc), .val (.int vd), .val (.int ve), .val (.int ee), .val (.int (((ve.toUInt32 >>> ((4 : Int32) &&& 31).toUInt32).toInt32) &&& (3 : Int32))), .val (.int ca), .val (.int (((ve.toUInt32 >>> ((6 : Int32) &&& 31).toUInt32).toInt32) &&& (3 : Int32))), .val (.int cb), .val (.long (own_make va ca)), .second, .val (.long (own_make ee cb)), .second, .unset, .unset, .unset, .unset] [(.int (-1 : Int32)), (.int cb)]))
          by_cases hc124 : cb = (-1 : Int32)
          · refine own_Fin.go (fun t k => XS.icmpYes X2.here hx rfl (pc0 := 124) (pc' := 140) rfl (hb hby at_124) rfl (Jvm.Free.XT.ii_eq_t hc124) (by decide) (by decide) k) ?_
            show own_Fin _ _ _ _ _ _ _ (T2.setTop (mkF m 140 #[.val (.int va), .val (.int vb), .val (.int vc), .val (.int vd), .val (.int ve), .val (.int ee), .val (.int (((ve.toUInt32 >>> ((4 : Int32) &&& 31).toUInt32).toInt32) &&& (3 : Int32))), .val (.int ca), .val (.int (((ve.toUInt32 >>> ((6 : Int32) &&& 31).toUInt32).toInt32) &&& (3 : Int32))), .val (.int cb), .val (.long (own_make va ca)), .second, .val (.long (own_make ee cb)), .second, .unset, .unset, .unset, .unset] []))
            refine own_Fin.go (fun t k => XS.iconst X2.here hx rfl (hb hby at_140) k) ?_
            show own_Fin _ _ _ _ _ _ _ (T2.setTop (mkF m 141 #[.val (.int va), .val (.int vb), .val (.int vc), .val (.int vd), .val (.int ve), .val (.int ee), .val (.int (((ve.toUInt32 >>> ((4 : Int32) &&& 31).toUInt32).toInt32) &&& (3 : Int32))), .val (.int ca), .val (.int (((ve.toUInt32 >>> ((6 : Int32) &&& 31).toUInt32).toInt32) &&& (3 : Int32))), .val (.int cb), .val (.long (own_make va ca)), .second, .val (.long (own_make ee cb)), .second, .unset, .unset, .unset, .unset] [(.int (0 : Int32))]))
            exact J141 (0 : Int32) (by simp only [own_ba, if_pos hc118, if_pos hc124])
          · refine own_Fin.go (fun t k => XS.icmpNo X2.here hx rfl (hb hby at_124) rfl (Jvm.Free.XT.ii_eq_f hc124) k) ?_
            show own_Fin _ _ _ _ _ _ _ (T2.setTop (mkF m 127 #[.val (.int va), .val (.int vb), .val (.int vc), .val (.int vd), .val (.int ve), .val (.int ee), .val (.int (((ve.toUInt32 >>> ((4 : Int32) &&& 31).toUInt32).toInt32) &&& (3 : Int32))), .val (.int ca), .val (.int (((ve.toUInt32 >>> ((6 : Int32) &&& 31).toUInt32).toInt32) &&& (3 : Int32))), .val (.int cb), .val (.long (own_make va ca)), .second, .val (.long (own_make ee cb)), .second, .unset, .unset, .unset, .unset] []))
            refine own_Fin.go (fun t k => XS.iload X2.here hx rfl (hb hby at_127) rfl k) ?_
            show own_Fin _ _ _ _ _ _ _ (T2.setTop (mkF m 129 #[.val (.int va), .val (.int vb), .val (.int vc), .val (.int vd), .val (.int ve), .val (.int ee), .val (.int (((ve.toUInt32 >>> ((4 : Int32) &&& 31).toUInt32).toInt32) &&& (3 : Int32))), .val (.int ca), .val (.int (((ve.toUInt32 >>> ((6 : Int32) &&& 31).toUInt32).toInt32) &&& (3 : Int32))), .val (.int cb), .val (.long (own_make va ca)), .second, .val (.long (own_make ee cb)), .second, .unset, .unset, .unset, .unset] [(.int ca)]))
            refine own_Fin.go (fun t k => XS.iload X2.here hx rfl (hb hby at_129) rfl k) ?_
            show own_Fin _ _ _ _ _ _ _ (T2.setTop (mkF m 131 #[.val (.int va), .val (.int vb), .val (.int vc), .val (.int vd), .val (.int ve), .val (.int ee), .val (.int (((ve.toUInt32 >>> ((4 : Int32) &&& 31).toUInt32).toInt32) &&& (3 : Int32))), .val (.int ca), .val (.int (((ve.toUInt32 >>> ((6 : Int32) &&& 31).toUInt32).toInt32) &&& (3 : Int32))), .val (.int cb), .val (.long (own_make va ca)), .second, .val (.long (own_make ee cb)), .second, .unset, .unset, .unset, .unset] [(.int cb), (.int ca)]))
            refine own_Fin.go (fun t k => XS.iconst X2.here hx rfl (hb hby at_131) k) ?_
            show own_Fin _ _ _ _ _ _ _ (T2.setTop (mkF m 132 #[.val (.int va), .val (.int vb), .val (.int vc), .val (.int vd), .val (.int ve), .val (.int ee), .val (.int (((ve.toUInt32 >>> ((4 : Int32) &&& 31).toUInt32).toInt32) &&& (3 : Int32))), .val (.int ca), .val (.int (((ve.toUInt32 >>> ((6 : Int32) &&& 31).toUInt32).toInt32) &&& (3 : Int32))), .val (.int cb), .val (.long (own_make va ca)), .second, .val (.long (own_make ee cb)), .second, .unset, .unset, .unset, .unset] [(.int (1 : Int32)), (.int cb), (.int ca)]))
            refine own_Fin.go (fun t k => XS.iadd X2.here hx rfl (hb hby at_132) rfl k) ?_
            show own_Fin _ _ _ _ _ _ _ (T2.setTop (mkF m 133 #[.val (.int va), .val (.int vb), .val (.int vc), .val (.int vd), .val (.int ve), .val (.int ee), .val (.int (((ve.toUInt32 >>> ((4 : Int32) &&& 31).toUInt32).toInt32) &&& (3 : Int32))), .val (.int ca), .val (.int (((ve.toUInt32 >>> ((6 : Int32) &&& 31).toUInt32).toInt32) &&& (3 : Int32))), .val (.int cb), .val (.long (own_make va ca)), .second, .val (.long (own_make ee cb)), .second, .unset, .unset, .unset, .unset] [(.int (cb + (1 : Int32))), (.int ca)]))
            by_cases hc133 : ca = (cb + (1 : Int32))
            · refine own_Fin.go (fun t k => XS.icmpNo X2.here hx rfl (hb hby at_133) rfl (Jvm.Free.XT.ii_ne_f hc133) k) ?_
              show own_Fin _ _ _ _ _ _ _ (T2.setTop (mkF m 136 #[.val (.int va), .val (.int vb), .val (.int vc), .val (.int vd), .val (.int ve), .val (.int ee), .val (.int (((ve.toUInt32 >>> ((4 : Int32) &&& 31).toUInt32).toInt32) &&& (3 : Int32))), .val (.int ca), .val (.int (((ve.toUInt32 >>> ((6 : Int32) &&& 31).toUInt32).toInt32) &&& (3 : Int32))), .val (.int cb), .val (.long (own_make va ca)), .second, .val (.long (own_make ee cb)), .second, .unset, .unset, .unset, .unset] []))
              refine own_Fin.go (fun t k => XS.iconst X2.here hx rfl (hb hby at_136) k) ?_
              show own_Fin _ _ _ _ _ _ _ (T2.setTop (mkF m 137 #[.val (.int va), .val (.int vb), .val (.int vc), .val (.int vd), .val (.int ve), .val (.int ee), .val (.int (((ve.toUInt32 >>> ((4 : Int32) &&& 31).toUInt32).toInt32) &&& (3 : Int32))), .val (.int ca), .val (.int (((ve.toUInt32 >>> ((6 : Int32) &&& 31).toUInt32).toInt32) &&& (3 : Int32))), .val (.int cb), .val (.long (own_make va ca)), .second, .val (.long (own_make ee cb)), .second, .unset, .unset, .unset, .unset] [(.int (1 : Int32))]))
              refine own_Fin.go (fun t k => XS.goto X2.here hx rfl (pc0 := 137) (pc' := 141) rfl (hb hby at_137) (by decide) (by decide) k) ?_
              show own_Fin _ _ _ _ _ _ _ (T2.setTop (mkF m 141 #[.val (.int va), .val (.int vb), .val (.int vc), .val (.int vd), .val (.int ve), .val (.int ee), .val (.int (((ve.toUInt32 >>> ((4 : Int32) &&& 31).toUInt32).toInt32) &&& (3 : Int32))), .val (.int ca), .val (.int (((ve.toUInt32 >>> ((6 : Int32) &&& 31).toUInt32).toInt32) &&& (3 : Int32))), .val (.int cb), .val (.long (own_make va ca)), .second, .val (.long (own_make ee cb)), .second, .unset, .unset, .unset, .unset] [(.int (1 : Int32))]))
              exact J141 (1 : Int32) (by simp only [own_ba, if_pos hc118, if_neg hc124, if_pos hc133])
            · refine own_Fin.go (fun t k => XS.icmpYes X2.here hx rfl (pc0 := 133) (pc' := 140) rfl (hb hby at_133) rfl (Jvm.Free.XT.ii_ne_t hc133) (by decide) (by decide) k) ?_
              show own_Fin _ _ _ _ _ _ _ (T2.setTop (mkF m 140 #[.val (.int va), .val (.int vb), .val (.int vc), .val (.int vd), .val (.int ve), .val (.int ee), .val (.int (((ve.toUInt32 >>> ((4 : Int32) &&& 31).toUInt32).toInt32) &&& (3 : Int32))), .val (.int ca), .val (.int (((ve.toUInt32 >>> ((6 : Int32) &&& 31).toUInt32).toInt32) &&& (3 : Int32))), .val (.int cb), .val (.long (own_make va ca)), .second, .val (.long (own_make ee cb)), .second, .unset, .unset, .unset, .unset] []))
              refine own_Fin.go (fun t k => XS.iconst X2.here hx rfl (hb hby at_140) k) ?_
              show own_Fin _ _ _ _ _ _ _ (T2.setTop (mkF m 141 #[.val (.int va), .val (.int vb), .val (.int vc), .val (.int vd), .val (.int ve), .val (.int ee), .val (.int (((ve.toUInt32 >>> ((4 : Int32) &&& 31).toUInt32).toInt32) &&& (3 : Int32))), .val (.int ca), .val (.int (((ve.toUInt32 >>> ((6 : Int32) &&& 31).toUInt32).toInt32) &&& (3 : Int32))), .val (.int cb), .val (.long (own_make va ca)), .second, .val (.long (own_make ee cb)), .second, .unset, .unset, .unset, .unset] [(.int (0 : Int32))]))
              exact J141 (0 : Int32) (by simp only [own_ba, if_pos hc118, if_neg hc124, if_neg hc133])
        · refine own_Fin.go (fun t k => XS.icmpYes X2.here hx rfl (pc0 := 118) (pc' := 140) rfl (hb hby at_118) rfl (Jvm.Free.XT.ii_ne_t hc118) (by decide) (by decide) k) ?_
          show own_Fin _ _ _ _ _ _ _ (T2.setTop (mkF m 140 #[.val (.int va), .val (.int vb), .val (.int vc), .val (.int vd), .val (.int ve), .val (.int ee), .val (.int (((ve.toUInt32 >>> ((4 : Int32) &&& 31).toUInt32).toInt32) &&& (3 : Int32))), .val (.int ca), .val (.int (((ve.toUInt32 >>> ((6 : Int32) &&& 31).toUInt32).toInt32) &&& (3 : Int32))), .val (.int cb), .val (.long (own_make va ca)), .second, .val (.long (own_make ee cb)), .second, .unset, .unset, .unset, .unset] []))
          refine own_Fin.go (fun t k => XS.iconst X2.here hx rfl (hb hby at_140) k) ?_
          show own_Fin _ _ _ _ _ _ _ (T2.setTop (mkF m 141 #[.val (.int va), .val (.int vb), .val (.int vc), .val (.int vd), .val (.int ve), .val (.int ee), .val (.int (((ve.toUInt32 >>> ((4 : Int32) &&& 31).toUInt32).toInt32) &&& (3 : Int32))), .val (.int ca), .val (.int (((ve.toUInt32 >>> ((6 : Int32) &&& 31).toUInt32).toInt32) &&& (3 : Int32))), .val (.int cb), .val (.long (own_make va ca)), .second, .val (.long (own_make ee cb)), .second, .unset, .unset, .unset, .unset] [(.int (0 : Int32))]))
          exact J141 (0 : Int32) (by simp only [own_ba, if_neg hc118])
      refine own_Fin.go (fun t k => XS.iload X0.here hx rfl (hb hby at_62) rfl k) ?_
      show own_Fin _ _ _ _ _ _ _ (s₁.setTop (mkF m 64 #[.val (.int va), .val (.int vb), .val (.int vc), .val (.int vd), .val (.int ve), .val (.int ee), .val (.int (((ve.toUInt32 >>> ((4 : Int32) &&& 31).toUInt32).toInt32) &&& (3 : Int32))), .val (.int ca), .val (.int (((ve.toUInt32 >>> ((6 : Int32) &&& 31).toUInt32).toInt32) &&& (3 : Int32))), .unset, .unset, .unset, .unset, .unset, .unset, .unset, .unset, .unset] [(.int (((ve.toUInt32 >>> ((6 : Int32) &&& 31).toUInt32).toInt32) &&& (3 : Int32)))]))
      by_cases hc64 : (((ve.toUInt32 >>> ((6 : Int32) &&& 31).toUInt32).toInt32) &&& (3 : Int32)) = (0 : Int32)
      · refine own_Fin.go (fun t k => XS.ifNo X0.here hx rfl (hb hby at_64) rfl (Jvm.Free.XT.i0_ne_f hc64) k) ?_
        show own_Fin _ _ _ _ _ _ _ (s₁.setTop (mkF m 67 #[.val (.int va), .val (.int vb), .val (.int vc), .val (.int vd), .val (.int ve), .val (.int ee), .val (.int (((ve.toUInt32 >>> ((4 : Int32) &&& 31).toUInt32).toInt32) &&& (3 : Int32))), .val (.int ca), .val (.int (((ve.toUInt32 >>> ((6 : Int32) &&& 31).toUInt32).toInt32) &&& (3 : Int32))), .unset, .unset, .unset, .unset, .unset, .unset, .unset, .unset, .unset] []))
        refine own_Fin.go (fun t k => XS.iload X0.here hx rfl (hb hby at_67) rfl k) ?_
        show own_Fin _ _ _ _ _ _ _ (s₁.setTop (mkF m 69 #[.val (.int va), .val (.int vb), .val (.int vc), .val (.int vd), .val (.int ve), .val (.int ee), .val (.int (((ve.toUInt32 >>> ((4 : Int32) &&& 31).toUInt32).toInt32) &&& (3 : Int32))), .val (.int ca), .val (.int (((ve.toUInt32 >>> ((6 : Int32) &&& 31).toUInt32).toInt32) &&& (3 : Int32))), .unset, .unset, .unset, .unset, .unset, .unset, .unset, .unset, .unset] [(.int ca)]))
        refine own_Fin.go (fun t k => XS.iconst X0.here hx rfl (hb hby at_69) k) ?_
        show own_Fin _ _ _ _ _ _ _ (s₁.setTop (mkF m 70 #[.val (.int va), .val (.int vb), .val (.int vc), .val (.int vd), .val (.int ve), .val (.int ee), .val (.int (((ve.toUInt32 >>> ((4 : Int32) &&& 31).toUInt32).toInt32) &&& (3 : Int32))), .val (.int ca), .val (.int (((ve.toUInt32 >>> ((6 : Int32) &&& 31).toUInt32).toInt32) &&& (3 : Int32))), .unset, .unset, .unset, .unset, .unset, .unset, .unset, .unset, .unset] [(.int (1 : Int32)), (.int ca)]))
        refine own_Fin.go (fun t k => XS.isub X0.here hx rfl (hb hby at_70) rfl k) ?_
        show own_Fin _ _ _ _ _ _ _ (s₁.setTop (mkF m 71 #[.val (.int va), .val (.int vb), .val (.int vc), .val (.int vd), .val (.int ve), .val (.int ee), .val (.int (((ve.toUInt32 >>> ((4 : Int32) &&& 31).toUInt32).toInt32) &&& (3 : Int32))), .val (.int ca), .val (.int (((ve.toUInt32 >>> ((6 : Int32) &&& 31).toUInt32).toInt32) &&& (3 : Int32))), .unset, .unset, .unset, .unset, .unset, .unset, .unset, .unset, .unset] [(.int (ca - (1 : Int32)))]))
        refine own_Fin.go (fun t k => XS.goto X0.here hx rfl (pc0 := 71) (pc' := 96) rfl (hb hby at_71) (by decide) (by decide) k) ?_
        show own_Fin _ _ _ _ _ _ _ (s₁.setTop (mkF m 96 #[.val (.int va), .val (.int vb), .val (.int vc), .val (.int vd), .val (.int ve), .val (.int ee), .val (.int (((ve.toUInt32 >>> ((4 : Int32) &&& 31).toUInt32).toInt32) &&& (3 : Int32))), .val (.int ca), .val (.int (((ve.toUInt32 >>> ((6 : Int32) &&& 31).toUInt32).toInt32) &&& (3 : Int32))), .unset, .unset, .unset, .unset, .unset, .unset, .unset, .unset, .unset] [(.int (ca - (1 : Int32)))]))
        exact J96 (ca - (1 : Int32))
      · refine own_Fin.go (fun t k => XS.ifYes X0.here hx rfl (pc0 := 64) (pc' := 74) rfl (hb hby at_64) rfl (Jvm.Free.XT.i0_ne_t hc64) (by decide) (by decide) k) ?_
        show own_Fin _ _ _ _ _ _ _ (s₁.setTop (mkF m 74 #[.val (.int va), .val (.int vb), .val (.int vc), .val (.int vd), .val (.int ve), .val (.int ee), .val (.int (((ve.toUInt32 >>> ((4 : Int32) &&& 31).toUInt32).toInt32) &&& (3 : Int32))), .val (.int ca), .val (.int (((ve.toUInt32 >>> ((6 : Int32) &&& 31).toUInt32).toInt32) &&& (3 : Int32))), .unset, .unset, .unset, .unset, .unset, .unset, .unset, .unset, .unset] []))
        refine own_Fin.go (fun t k => XS.iload X0.here hx rfl (hb hby at_74) rfl k) ?_
        show own_Fin _ _ _ _ _ _ _ (s₁.setTop (mkF m 76 #[.val (.int va), .val (.int vb), .val (.int vc), .val (.int vd), .val (.int ve), .val (.int ee), .val (.int (((ve.toUInt32 >>> ((4 : Int32) &&& 31).toUInt32).toInt32) &&& (3 : Int32))), .val (.int ca), .val (.int (((ve.toUInt32 >>> ((6 : Int32) &&& 31).toUInt32).toInt32) &&& (3 : Int32))), .unset, .unset, .unset, .unset, .unset, .unset, .unset, .unset, .unset] [(.int (((ve.toUInt32 >>> ((6 : Int32) &&& 31).toUInt32).toInt32) &&& (3 : Int32)))]))
        refine own_Fin.go (fun t k => XS.iconst X0.here hx rfl (hb hby at_76) k) ?_
        show own_Fin _ _ _ _ _ _ _ (s₁.setTop (mkF m 77 #[.val (.int va), .val (.int vb), .val (.int vc), .val (.int vd), .val (.int ve), .val (.int ee), .val (.int (((ve.toUInt32 >>> ((4 : Int32) &&& 31).toUInt32).toInt32) &&& (3 : Int32))), .val (.int ca), .val (.int (((ve.toUInt32 >>> ((6 : Int32) &&& 31).toUInt32).toInt32) &&& (3 : Int32))), .unset, .unset, .unset, .unset, .unset, .unset, .unset, .unset, .unset] [(.int (1 : Int32)), (.int (((ve.toUInt32 >>> ((6 : Int32) &&& 31).toUInt32).toInt32) &&& (3 : Int32)))]))
        by_cases hc77 : (((ve.toUInt32 >>> ((6 : Int32) &&& 31).toUInt32).toInt32) &&& (3 : Int32)) = (1 : Int32)
        · refine own_Fin.go (fun t k => XS.icmpNo X0.here hx rfl (hb hby at_77) rfl (Jvm.Free.XT.ii_ne_f hc77) k) ?_
          show own_Fin _ _ _ _ _ _ _ (s₁.setTop (mkF m 80 #[.val (.int va), .val (.int vb), .val (.int vc), .val (.int vd), .val (.int ve), .val (.int ee), .val (.int (((ve.toUInt32 >>> ((4 : Int32) &&& 31).toUInt32).toInt32) &&& (3 : Int32))), .val (.int ca), .val (.int (((ve.toUInt32 >>> ((6 : Int32) &&& 31).toUInt32).toInt32) &&& (3 : Int32))), .unset, .unset, .unset, .unset, .unset, .unset, .unset, .unset, .unset] []))
          refine own_Fin.go (fun t k => XS.iconst X0.here hx rfl (hb hby at_80) k) ?_
          show own_Fin _ _ _ _ _ _ _ (s₁.setTop (mkF m 81 #[.val (.int va), .val (.int vb), .val (.int vc), .val (.int vd), .val (.int ve), .val (.int ee), .val (.int (((ve.toUInt32 >>> ((4 : Int32) &&& 31).toUInt32).toInt32) &&& (3 : Int32))), .val (.int ca), .val (.int (((ve.toUInt32 >>> ((6 : Int32) &&& 31).toUInt32).toInt32) &&& (3 : Int32))), .unset, .unset, .unset, .unset, .unset, .unset, .unset, .unset, .unset] [(.int (-1 : Int32))]))
          refine own_Fin.go (fun t k => XS.goto X0.here hx rfl (pc0 := 81) (pc' := 96) rfl (hb hby at_81) (by decide) (by decide) k) ?_
          show own_Fin _ _ _ _ _ _ _ (s₁.setTop (mkF m 96 #[.val (.int va), .val (.int vb), .val (.int vc), .val (.int vd), .val (.int ve), .val (.int ee), .val (.int (((ve.toUInt32 >>> ((4 : Int32) &&& 31).toUInt32).toInt32) &&& (3 : Int32))), .val (.int ca), .val (.int (((ve.toUInt32 >>> ((6 : Int32) &&& 31).toUInt32).toInt32) &&& (3 : Int32))), .unset, .unset, .unset, .unset, .unset, .unset, .unset, .unset, .unset] [(.int (-1 : Int32))]))
          exact J96 (-1 : Int32)
        · refine own_Fin.go (fun t k => XS.icmpYes X0.here hx rfl (pc0 := 77) (pc' := 84) rfl (hb hby at_77) rfl (Jvm.Free.XT.ii_ne_t hc77) (by decide) (by decide) k) ?_
          show own_Fin _ _ _ _ _ _ _ (s₁.setTop (mkF m 84 #[.val (.int va), .val (.int vb), .val (.int vc), .val (.int vd), .val (.int ve), .val (.int ee), .val (.int (((ve.toUInt32 >>> ((4 : Int32) &&& 31).toUInt32).toInt32) &&& (3 : Int32))), .val (.int ca), .val (.int (((ve.toUInt32 >>> ((6 : Int32) &&& 31).toUInt32).toInt32) &&& (3 : Int32))), .unset, .unset, .unset, .unset, .unset, .unset, .unset, .unset, .unset] []))
          refine own_Fin.go (fun t k => XS.iload X0.here hx rfl (hb hby at_84) rfl k) ?_
          show own_Fin _ _ _ _ _ _ _ (s₁.setTop (mkF m 86 #[.val (.int va), .val (.int vb), .val (.int vc), .val (.int vd), .val (.int ve), .val (.int ee), .val (.int (((ve.toUInt32 >>> ((4 : Int32) &&& 31).toUInt32).toInt32) &&& (3 : Int32))), .val (.int ca), .val (.int (((ve.toUInt32 >>> ((6 : Int32) &&& 31).toUInt32).toInt32) &&& (3 : Int32))), .unset, .unset, .unset, .unset, .unset, .unset, .unset, .unset, .unset] [(.int (((ve.toUInt32 >>> ((6 : Int32) &&& 31).toUInt32).toInt32) &&& (3 : Int32)))]))
          refine own_Fin.go (fun t k => XS.iconst X0.here hx rfl (hb hby at_86) k) ?_
          show own_Fin _ _ _ _ _ _ _ (s₁.setTop (mkF m 87 #[.val (.int va), .val (.int vb), .val (.int vc), .val (.int vd), .val (.int ve), .val (.int ee), .val (.int (((ve.toUInt32 >>> ((4 : Int32) &&& 31).toUInt32).toInt32) &&& (3 : Int32))), .val (.int ca), .val (.int (((ve.toUInt32 >>> ((6 : Int32) &&& 31).toUInt32).toInt32) &&& (3 : Int32))), .unset, .unset, .unset, .unset, .unset, .unset, .unset, .unset, .unset] [(.int (2 : Int32)), (.int (((ve.toUInt32 >>> ((6 : Int32) &&& 31).toUInt32).toInt32) &&& (3 : Int32)))]))
          by_cases hc87 : (((ve.toUInt32 >>> ((6 : Int32) &&& 31).toUInt32).toInt32) &&& (3 : Int32)) = (2 : Int32)
          · refine own_Fin.go (fun t k => XS.icmpNo X0.here hx rfl (hb hby at_87) rfl (Jvm.Free.XT.ii_ne_f hc87) k) ?_
            show own_Fin _ _ _ _ _ _ _ (s₁.setTop (mkF m 90 #[.val (.int va), .val (.int vb), .val (.int vc), .val (.int vd), .val (.int ve), .val (.int ee), .val (.int (((ve.toUInt32 >>> ((4 : Int32) &&& 31).toUInt32).toInt32) &&& (3 : Int32))), .val (.int ca), .val (.int (((ve.toUInt32 >>> ((6 : Int32) &&& 31).toUInt32).toInt32) &&& (3 : Int32))), .unset, .unset, .unset, .unset, .unset, .unset, .unset, .unset, .unset] []))
            refine own_Fin.go (fun t k => XS.iload X0.here hx rfl (hb hby at_90) rfl k) ?_
            show own_Fin _ _ _ _ _ _ _ (s₁.setTop (mkF m 92 #[.val (.int va), .val (.int vb), .val (.int vc), .val (.int vd), .val (.int ve), .val (.int ee), .val (.int (((ve.toUInt32 >>> ((4 : Int32) &&& 31).toUInt32).toInt32) &&& (3 : Int32))), .val (.int ca), .val (.int (((ve.toUInt32 >>> ((6 : Int32) &&& 31).toUInt32).toInt32) &&& (3 : Int32))), .unset, .unset, .unset, .unset, .unset, .unset, .unset, .unset, .unset] [(.int ca)]))
            refine own_Fin.go (fun t k => XS.goto X0.here hx rfl (pc0 := 92) (pc' := 96) rfl (hb hby at_92) (by decide) (by decide) k) ?_
            show own_Fin _ _ _ _ _ _ _ (s₁.setTop (mkF m 96 #[.val (.int va), .val (.int vb), .val (.int vc), .val (.int vd), .val (.int ve), .val (.int ee), .val (.int (((ve.toUInt32 >>> ((4 : Int32) &&& 31).toUInt32).toInt32) &&& (3 : Int32))), .val (.int ca), .val (.int (((ve.toUInt32 >>> ((6 : Int32) &&& 31).toUInt32).toInt32) &&& (3 : Int32))), .unset, .unset, .unset, .unset, .unset, .unset, .unset, .unset, .unset] [(.int ca)]))
            exact J96 ca
          · refine own_Fin.go (fun t k => XS.icmpYes X0.here hx rfl (pc0 := 87) (pc' := 95) rfl (hb hby at_87) rfl (Jvm.Free.XT.ii_ne_t hc87) (by decide) (by decide) k) ?_
            show own_Fin _ _ _ _ _ _ _ (s₁.setTop (mkF m 95 #[.val (.int va), .val (.int vb), .val (.int vc), .val (.int vd), .val (.int ve), .val (.int ee), .val (.int (((ve.toUInt32 >>> ((4 : Int32) &&& 31).toUInt32).toInt32) &&& (3 : Int32))), .val (.int ca), .val (.int (((ve.toUInt32 >>> ((6 : Int32) &&& 31).toUInt32).toInt32) &&& (3 : Int32))), .unset, .unset, .unset, .unset, .unset, .unset, .unset, .unset, .unset] []))
            refine own_Fin.go (fun t k => XS.iloadN X0.here hx rfl (hb hby at_95) rfl k) ?_
            show own_Fin _ _ _ _ _ _ _ (s₁.setTop (mkF m 96 #[.val (.int va), .val (.int vb), .val (.int vc), .val (.int vd), .val (.int ve), .val (.int ee), .val (.int (((ve.toUInt32 >>> ((4 : Int32) &&& 31).toUInt32).toInt32) &&& (3 : Int32))), .val (.int ca), .val (.int (((ve.toUInt32 >>> ((6 : Int32) &&& 31).toUInt32).toInt32) &&& (3 : Int32))), .unset, .unset, .unset, .unset, .unset, .unset, .unset, .unset, .unset] [(.int vd)]))
            exact J96 vd
    refine own_Fin.go (fun t k => XS.iload X0.here hx rfl (hb hby at_31) rfl k) ?_
    show own_Fin _ _ _ _ _ _ _ (s₁.setTop (mkF m 33 #[.val (.int va), .val (.int vb), .val (.int vc), .val (.int vd), .val (.int ve), .val (.int ee), .val (.int (((ve.toUInt32 >>> ((4 : Int32) &&& 31).toUInt32).toInt32) &&& (3 : Int32))), .unset, .unset, .unset, .unset, .unset, .unset, .unset, .unset, .unset, .unset, .unset] [(.int (((ve.toUInt32 >>> ((4 : Int32) &&& 31).toUInt32).toInt32) &&& (3 : Int32)))]))
    by_cases hc33 : (((ve.toUInt32 >>> ((4 : Int32) &&& 31).toUInt32).toInt32) &&& (3 : Int32)) = (0 : Int32)
    · refine own_Fin.go (fun t k => XS.ifNo X0.here hx rfl (hb hby at_33) rfl (Jvm.Free.XT.i0_ne_f hc33) k) ?_
      show own_Fin _ _ _ _ _ _ _ (s₁.setTop (mkF m 36 #[.val (.int va), .val (.int vb), .val (.int vc), .val (.int vd), .val (.int ve), .val (.int ee), .val (.int (((ve.toUInt32 >>> ((4 : Int32) &&& 31).toUInt32).toInt32) &&& (3 : Int32))), .unset, .unset, .unset, .unset, .unset, .unset, .unset, .unset, .unset, .unset, .unset] []))
      refine own_Fin.go (fun t k => XS.iconst X0.here hx rfl (hb hby at_36) k) ?_
      show own_Fin _ _ _ _ _ _ _ (s₁.setTop (mkF m 37 #[.val (.int va), .val (.int vb), .val (.int vc), .val (.int vd), .val (.int ve), .val (.int ee), .val (.int (((ve.toUInt32 >>> ((4 : Int32) &&& 31).toUInt32).toInt32) &&& (3 : Int32))), .unset, .unset, .unset, .unset, .unset, .unset, .unset, .unset, .unset, .unset, .unset] [(.int (1 : Int32))]))
      refine own_Fin.go (fun t k => XS.goto X0.here hx rfl (pc0 := 37) (pc' := 51) rfl (hb hby at_37) (by decide) (by decide) k) ?_
      show own_Fin _ _ _ _ _ _ _ (s₁.setTop (mkF m 51 #[.val (.int va), .val (.int vb), .val (.int vc), .val (.int vd), .val (.int ve), .val (.int ee), .val (.int (((ve.toUInt32 >>> ((4 : Int32) &&& 31).toUInt32).toInt32) &&& (3 : Int32))), .unset, .unset, .unset, .unset, .unset, .unset, .unset, .unset, .unset, .unset, .unset] [(.int (1 : Int32))]))
      exact J51 (1 : Int32)
    · refine own_Fin.go (fun t k => XS.ifYes X0.here hx rfl (pc0 := 33) (pc' := 40) rfl (hb hby at_33) rfl (Jvm.Free.XT.i0_ne_t hc33) (by decide) (by decide) k) ?_
      show own_Fin _ _ _ _ _ _ _ (s₁.setTop (mkF m 40 #[.val (.int va), .val (.int vb), .val (.int vc), .val (.int vd), .val (.int ve), .val (.int ee), .val (.int (((ve.toUInt32 >>> ((4 : Int32) &&& 31).toUInt32).toInt32) &&& (3 : Int32))), .unset, .unset, .unset, .unset, .unset, .unset, .unset, .unset, .unset, .unset, .unset] []))
      refine own_Fin.go (fun t k => XS.iload X0.here hx rfl (hb hby at_40) rfl k) ?_
      show own_Fin _ _ _ _ _ _ _ (s₁.setTop (mkF m 42 #[.val (.int va), .val (.int vb), .val (.int vc), .val (.int vd), .val (.int ve), .val (.int ee), .val (.int (((ve.toUInt32 >>> ((4 : Int32) &&& 31).toUInt32).toInt32) &&& (3 : Int32))), .unset, .unset, .unset, .unset, .unset, .unset, .unset, .unset, .unset, .unset, .unset] [(.int (((ve.toUInt32 >>> ((4 : Int32) &&& 31).toUInt32).toInt32) &&& (3 : Int32)))]))
      refine own_Fin.go (fun t k => XS.iconst X0.here hx rfl (hb hby at_42) k) ?_
      show own_Fin _ _ _ _ _ _ _ (s₁.setTop (mkF m 43 #[.val (.int va), .val (.int vb), .val (.int vc), .val (.int vd), .val (.int ve), .val (.int ee), .val (.int (((ve.toUInt32 >>> ((4 : Int32) &&& 31).toUInt32).toInt32) &&& (3 : Int32))), .unset, .unset, .unset, .unset, .unset, .unset, .unset, .unset, .unset, .unset, .unset] [(.int (1 : Int32)), (.int (((ve.toUInt32 >>> ((4 : Int32) &&& 31).toUInt32).toInt32) &&& (3 : Int32)))]))
      by_cases hc43 : (((ve.toUInt32 >>> ((4 : Int32) &&& 31).toUInt32).toInt32) &&& (3 : Int32)) = (1 : Int32)
      · refine own_Fin.go (fun t k => XS.icmpNo X0.here hx rfl (hb hby at_43) rfl (Jvm.Free.XT.ii_ne_f hc43) k) ?_
        show own_Fin _ _ _ _ _ _ _ (s₁.setTop (mkF m 46 #[.val (.int va), .val (.int vb), .val (.int vc), .val (.int vd), .val (.int ve), .val (.int ee), .val (.int (((ve.toUInt32 >>> ((4 : Int32) &&& 31).toUInt32).toInt32) &&& (3 : Int32))), .unset, .unset, .unset, .unset, .unset, .unset, .unset, .unset, .unset, .unset, .unset] []))
        refine own_Fin.go (fun t k => XS.iconst X0.here hx rfl (hb hby at_46) k) ?_
        show own_Fin _ _ _ _ _ _ _ (s₁.setTop (mkF m 47 #[.val (.int va), .val (.int vb), .val (.int vc), .val (.int vd), .val (.int ve), .val (.int ee), .val (.int (((ve.toUInt32 >>> ((4 : Int32) &&& 31).toUInt32).toInt32) &&& (3 : Int32))), .unset, .unset, .unset, .unset, .unset, .unset, .unset, .unset, .unset, .unset, .unset] [(.int (0 : Int32))]))
        refine own_Fin.go (fun t k => XS.goto X0.here hx rfl (pc0 := 47) (pc' := 51) rfl (hb hby at_47) (by decide) (by decide) k) ?_
        show own_Fin _ _ _ _ _ _ _ (s₁.setTop (mkF m 51 #[.val (.int va), .val (.int vb), .val (.int vc), .val (.int vd), .val (.int ve), .val (.int ee), .val (.int (((ve.toUInt32 >>> ((4 : Int32) &&& 31).toUInt32).toInt32) &&& (3 : Int32))), .unset, .unset, .unset, .unset, .unset, .unset, .unset, .unset, .unset, .unset, .unset] [(.int (0 : Int32))]))
        exact J51 (0 : Int32)
      · refine own_Fin.go (fun t k => XS.icmpYes X0.here hx rfl (pc0 := 43) (pc' := 50) rfl (hb hby at_43) rfl (Jvm.Free.XT.ii_ne_t hc43) (by decide) (by decide) k) ?_
        show own_Fin _ _ _ _ _ _ _ (s₁.setTop (mkF m 50 #[.val (.int va), .val (.int vb), .val (.int vc), .val (.int vd), .val (.int ve), .val (.int ee), .val (.int (((ve.toUInt32 >>> ((4 : Int32) &&& 31).toUInt32).toInt32) &&& (3 : Int32))), .unset, .unset, .unset, .unset, .unset, .unset, .unset, .unset, .unset, .unset, .unset] []))
        refine own_Fin.go (fun t k => XS.iloadN X0.here hx rfl (hb hby at_50) rfl k) ?_
        show own_Fin _ _ _ _ _ _ _ (s₁.setTop (mkF m 51 #[.val (.int va), .val (.int vb), .val (.int vc), .val (.int vd), .val (.int ve), .val (.int ee), .val (.int (((ve.toUInt32 >>> ((4 : Int32) &&& 31).toUInt32).toInt32) &&& (3 : Int32))), .unset, .unset, .unset, .unset, .unset, .unset, .unset, .unset, .unset, .unset, .unset] [(.int vb)]))
        exact J51 vb
  refine own_Fin.go (fun t k => XS.iload X0.here hx rfl (hb hby at_0) rfl k) ?_
  show own_Fin _ _ _ _ _ _ _ (s₁.setTop (mkF m 2 #[.val (.int va), .val (.int vb), .val (.int vc), .val (.int vd), .val (.int ve), .unset, .unset, .unset, .unset, .unset, .unset, .unset, .unset, .unset, .unset, .unset, .unset, .unset] [(.int ve)]))
  refine own_Fin.go (fun t k => XS.iconst X0.here hx rfl (hb hby at_2) k) ?_
  show own_Fin _ _ _ _ _ _ _ (s₁.setTop (mkF m 3 #[.val (.int va), .val (.int vb), .val (.int vc), .val (.int vd), .val (.int ve), .unset, .unset, .unset, .unset, .unset, .unset, .unset, .unset, .unset, .unset, .unset, .unset, .unset] [(.int (1 : Int32)), (.int ve)]))
  refine own_Fin.go (fun t k => XS.iand X0.here hx rfl (hb hby at_3) rfl k) ?_
  show own_Fin _ _ _ _ _ _ _ (s₁.setTop (mkF m 4 #[.val (.int va), .val (.int vb), .val (.int vc), .val (.int vd), .val (.int ve), .unset, .unset, .unset, .unset, .unset, .unset, .unset, .unset, .unset, .unset, .unset, .unset, .unset] [(.int (ve &&& (1 : Int32)))]))
  by_cases hc4 : (ve &&& (1 : Int32)) = (0 : Int32)
  · refine own_Fin.go (fun t k => XS.ifYes X0.here hx rfl (pc0 := 4) (pc' := 20) rfl (hb hby at_4) rfl (Jvm.Free.XT.i0_eq_t hc4) (by decide) (by decide) k) ?_
    show own_Fin _ _ _ _ _ _ _ (s₁.setTop (mkF m 20 #[.val (.int va), .val (.int vb), .val (.int vc), .val (.int vd), .val (.int ve), .unset, .unset, .unset, .unset, .unset, .unset, .unset, .unset, .unset, .unset, .unset, .unset, .unset] []))
    refine own_Fin.go (fun t k => XS.iloadN X0.here hx rfl (hb hby at_20) rfl k) ?_
    show own_Fin _ _ _ _ _ _ _ (s₁.setTop (mkF m 21 #[.val (.int va), .val (.int vb), .val (.int vc), .val (.int vd), .val (.int ve), .unset, .unset, .unset, .unset, .unset, .unset, .unset, .unset, .unset, .unset, .unset, .unset, .unset] [(.int vc)]))
    exact J21 vc
  · refine own_Fin.go (fun t k => XS.ifNo X0.here hx rfl (hb hby at_4) rfl (Jvm.Free.XT.i0_eq_f hc4) k) ?_
    show own_Fin _ _ _ _ _ _ _ (s₁.setTop (mkF m 7 #[.val (.int va), .val (.int vb), .val (.int vc), .val (.int vd), .val (.int ve), .unset, .unset, .unset, .unset, .unset, .unset, .unset, .unset, .unset, .unset, .unset, .unset, .unset] []))
    refine own_Fin.go (fun t k => XS.iloadN X0.here hx rfl (hb hby at_7) rfl k) ?_
    show own_Fin _ _ _ _ _ _ _ (s₁.setTop (mkF m 8 #[.val (.int va), .val (.int vb), .val (.int vc), .val (.int vd), .val (.int ve), .unset, .unset, .unset, .unset, .unset, .unset, .unset, .unset, .unset, .unset, .unset, .unset, .unset] [(.int va)]))
    refine own_Fin.go (fun t k => XS.iconst X0.here hx rfl (hb hby at_8) k) ?_
    show own_Fin _ _ _ _ _ _ _ (s₁.setTop (mkF m 9 #[.val (.int va), .val (.int vb), .val (.int vc), .val (.int vd), .val (.int ve), .unset, .unset, .unset, .unset, .unset, .unset, .unset, .unset, .unset, .unset, .unset, .unset, .unset] [(.int (1 : Int32)), (.int va)]))
    refine own_Fin.go (fun t k => XS.iadd X0.here hx rfl (hb hby at_9) rfl k) ?_
    show own_Fin _ _ _ _ _ _ _ (s₁.setTop (mkF m 10 #[.val (.int va), .val (.int vb), .val (.int vc), .val (.int vd), .val (.int ve), .unset, .unset, .unset, .unset, .unset, .unset, .unset, .unset, .unset, .unset, .unset, .unset, .unset] [(.int (va + (1 : Int32)))]))
    refine own_Fin.go (fun t k => XS.iload X0.here hx rfl (hb hby at_10) rfl k) ?_
    show own_Fin _ _ _ _ _ _ _ (s₁.setTop (mkF m 12 #[.val (.int va), .val (.int vb), .val (.int vc), .val (.int vd), .val (.int ve), .unset, .unset, .unset, .unset, .unset, .unset, .unset, .unset, .unset, .unset, .unset, .unset, .unset] [(.int ve), (.int (va + (1 : Int32)))]))
    refine own_Fin.go (fun t k => XS.iconst X0.here hx rfl (hb hby at_12) k) ?_
    show own_Fin _ _ _ _ _ _ _ (s₁.setTop (mkF m 13 #[.val (.int va), .val (.int vb), .val (.int vc), .val (.int vd), .val (.int ve), .unset, .unset, .unset, .unset, .unset, .unset, .unset, .unset, .unset, .unset, .unset, .unset, .unset] [(.int (1 : Int32)), (.int ve), (.int (va + (1 : Int32)))]))
    refine own_Fin.go (fun t k => XS.iushr X0.here hx rfl (hb hby at_13) rfl k) ?_
    show own_Fin _ _ _ _ _ _ _ (s₁.setTop (mkF m 14 #[.val (.int va), .val (.int vb), .val (.int vc), .val (.int vd), .val (.int ve), .unset, .unset, .unset, .unset, .unset, .unset, .unset, .unset, .unset, .unset, .unset, .unset, .unset] [(.int ((ve.toUInt32 >>> ((1 : Int32) &&& 31).toUInt32).toInt32)), (.int (va + (1 : Int32)))]))
    refine own_Fin.go (fun t k => XS.iconst X0.here hx rfl (hb hby at_14) k) ?_
    show own_Fin _ _ _ _ _ _ _ (s₁.setTop (mkF m 15 #[.val (.int va), .val (.int vb), .val (.int vc), .val (.int vd), .val (.int ve), .unset, .unset, .unset, .unset, .unset, .unset, .unset, .unset, .unset, .unset, .unset, .unset, .unset] [(.int (3 : Int32)), (.int ((ve.toUInt32 >>> ((1 : Int32) &&& 31).toUInt32).toInt32)), (.int (va + (1 : Int32)))]))
    refine own_Fin.go (fun t k => XS.iand X0.here hx rfl (hb hby at_15) rfl k) ?_
    show own_Fin _ _ _ _ _ _ _ (s₁.setTop (mkF m 16 #[.val (.int va), .val (.int vb), .val (.int vc), .val (.int vd), .val (.int ve), .unset, .unset, .unset, .unset, .unset, .unset, .unset, .unset, .unset, .unset, .unset, .unset, .unset] [(.int (((ve.toUInt32 >>> ((1 : Int32) &&& 31).toUInt32).toInt32) &&& (3 : Int32))), (.int (va + (1 : Int32)))]))
    refine own_Fin.go (fun t k => XS.isub X0.here hx rfl (hb hby at_16) rfl k) ?_
    show own_Fin _ _ _ _ _ _ _ (s₁.setTop (mkF m 17 #[.val (.int va), .val (.int vb), .val (.int vc), .val (.int vd), .val (.int ve), .unset, .unset, .unset, .unset, .unset, .unset, .unset, .unset, .unset, .unset, .unset, .unset, .unset] [(.int ((va + (1 : Int32)) - (((ve.toUInt32 >>> ((1 : Int32) &&& 31).toUInt32).toInt32) &&& (3 : Int32))))]))
    refine own_Fin.go (fun t k => XS.goto X0.here hx rfl (pc0 := 17) (pc' := 21) rfl (hb hby at_17) (by decide) (by decide) k) ?_
    show own_Fin _ _ _ _ _ _ _ (s₁.setTop (mkF m 21 #[.val (.int va), .val (.int vb), .val (.int vc), .val (.int vd), .val (.int ve), .unset, .unset, .unset, .unset, .unset, .unset, .unset, .unset, .unset, .unset, .unset, .unset, .unset] [(.int ((va + (1 : Int32)) - (((ve.toUInt32 >>> ((1 : Int32) &&& 31).toUInt32).toInt32) &&& (3 : Int32))))]))
    exact J21 ((va + (1 : Int32)) - (((ve.toUInt32 >>> ((1 : Int32) &&& 31).toUInt32).toInt32) &&& (3 : Int32)))
set_option maxRecDepth 65536 in
set_option maxHeartbeats 40000000 in
theorem comes_1 {Post : Tables → Env → Array Value → State → Outcome → State → Prop} (hpost : ∀ tb e args s v u, (limb_1_1.after args s (.returned v) u = true ∧ limb_1_2.after args s (.returned v) u = true ∧ True) → FrameEnd s (.returned v) u (Jvm.fieldLocs frame_1_writes args s ++ Jvm.arrayLocs frame_1_arrays args s ++ Jvm.staticLocs frame_1_statics s) 0 0 → Post tb e args s (.returned v) u) :
    ArmFor flags0 classFile x code maxLocals ret World_1 tables_1 room_1 Calls_1 rest_1 Pre_1 Post := by
  intro l hfl _ _ p e ha hc hk s m args below hf hA hF happ hP
  obtain ⟨hcalls, hrest, hpre⟩ := hP
  obtain ⟨-, -, -, hnamed, -, -, -, hat⟩ := (Spec.applies_iff hf).mp happ
  obtain ⟨hg, hn⟩ := and_e (Cond.before_iff.mp (show (Jvm.Cond.and given_1 narrow_1).before args s = true from hpre))
  obtain ⟨hg0, hr0⟩ := and_e hg
  obtain ⟨hg1, hr1⟩ := and_e hr0
  obtain ⟨hg2, hr2⟩ := and_e hr1
  obtain ⟨hg3, hr3⟩ := and_e hr2
  obtain ⟨hg4, hr4⟩ := and_e hr3
  obtain ⟨w0, w1, w2, w3, w4, rfl⟩ : ∃ w0 w1 w2 w3 w4 : Value, args = #[w0, w1, w2, w3, w4] := by
    have hs : args.size = 5 := by simpa [Cond.value, given_1] using hg0
    obtain ⟨L⟩ := args
    match L, hs with
    | [w0, w1, w2, w3, w4], _ => exact ⟨w0, w1, w2, w3, w4, rfl⟩
  have hw := fun d (hd : d ∈ tables_1) => atoms_spec (ws := Jvm.Cond.code x code maxLocals ret :: tables_1) hat d (List.mem_cons_of_mem _ hd)
  have hfit : Fit s := fun {y c} hc i hi => by
    obtain ⟨ha, rfl⟩ := Array.getElem?_eq_some_iff.mp hc
    have q := List.all_eq_true.mp ((Array.all_eq_true_iff_forall_mem.mp hF) _ (Array.getElem_mem ha)) i (List.mem_range.mpr hi)
    simpa [Array.getElem?_eq_getElem hi] using q
  obtain ⟨i0, ei0⟩ := is_v hg1
  obtain rfl : w0 = (.int i0) := Option.some.inj ei0
  obtain ⟨i1, ei1⟩ := is_v hg2
  obtain rfl : w1 = (.int i1) := Option.some.inj ei1
  obtain ⟨i2, ei2⟩ := is_v hg3
  obtain rfl : w2 = (.int i2) := Option.some.inj ei2
  obtain ⟨i3, ei3⟩ := is_v hg4
  obtain rfl : w3 = (.int i3) := Option.some.inj ei3
  obtain ⟨i4, ei4⟩ := is_v hr4
  obtain rfl : w4 = (.int i4) := Option.some.inj ei4
  obtain ⟨n, o, h1, h2, h3, _, L, rfl, ⟨rfl, N⟩, hq⟩ := own_rm_law l s _ hw tables_1 i0 i1 i2 i3 i4  s.heap s.heap.size (Nat.le_refl _)  p e ha hc hk s m _ below hf ((Spec.applies_iff_loose hf).mp happ).1 ⟨rfl, State.Warmed39.refl s, rfl⟩ trivial
  refine ⟨n, _, h1, h2, h3, hpost _ _ _ _ _ _ ⟨Cond.after_iff.mpr rfl, Cond.after_iff.mpr (eq_i res_at (Term.int_eval (1)) rfl), trivial⟩ ⟨hq.1, hq.2.1, (hq.2.2.sift fun y hy => Or.inr (N y hy)).mono (by decide) (by decide)⟩⟩
theorem main_1_1 : Claimed_1_1 := comes_1 fun _ _ _ _ _ _ h hF => ⟨h.1, hF⟩
theorem main_1_2 : Claimed_1_2 := comes_1 fun _ _ _ _ _ _ h hF => ⟨h.2.1, hF⟩
end Jvm.Pilot.@@N@@
namespace Jvm.Pilot.@@N@@
open Jvm Jvm.ClassFile Sem Op Lib Jvm.Free Jvm.Stand Jvm.Pilot.@@N@@.Jvm.D
/-! MADE BY PROGRAM (witnessworld.py) out of the Statement's table words and the real class files: 9 classes; the members and pool entries that the words name. The judged class is class 1, her method 2. -/
namespace start1
open Jvm.ClassFile
def u (s : String) : CpInfo := .utf8 (stringToUtf16 s)
/-- a pool by its gaps: so many unusable entries, then the entry; so many at the end -/
def gap : Nat → List CpInfo → List CpInfo
  | 0, r => r
  | n + 1, r => .unusable :: gap n r
def poolList (es : List (Nat × CpInfo)) (last : Nat) : List CpInfo := es.foldr (fun e r => gap e.1 (e.2 :: r)) (gap last [])
def pool (es : List (Nat × CpInfo)) (last : Nat) : Array CpInfo := ⟨poolList es last⟩
def fileOf (pool : Array CpInfo) (this : Nat) (attrs : Array Attribute := #[]) (ms : Array MethodInfo := #[]) (fl : Nat := 33) (sup : Nat := 0) (ifs : Array Nat := #[]) (fds : Array FieldInfo := #[]) : ClassFile where
  minorVersion := 0
  majorVersion := 65
  constantPool := pool
  accessFlags := fl
  thisClass := this
  superClass := sup
  interfaces := ifs
  fields := fds
  methods := ms
  attributes := attrs
def plain (name : String) (sup : Option ClassId) : Class where
  name := name
  kind := .ordinary
  loader := none
  accessFlags := 33
  super := sup
  interfaces := #[]
  cf := none
  fields := #[]
  methods := #[]
  instanceTypes := #[]
  staticTypes := #[]
  resolved := #[]
  callSites := []
  init := .initialized
  statics := none
  mirror := none

def pool0 : Array CpInfo := pool [(5, u "<init>"), (0, u "()V"), (1, .class_ 10), (1, u "java/lang/Object")] 113

def k0m0 : Method := { name := "<init>", desc := "()V", sig := { parameters := [], returnType := none }, accessFlags := 1, code := none }
/-- java/lang/Object -/
def k0 : Class := { plain "java/lang/Object" none with
  accessFlags := 33
  interfaces := #[]
  cf := some (fileOf pool0 8 #[] #[{ accessFlags := 1, nameIndex := 5, descriptorIndex := 6, attributes := #[] }] 33 0 #[] #[])
  fields := #[]
  methods := #[k0m0]
  instanceTypes := #[]
  staticTypes := #[]
  resolved := Array.replicate 124 none
  statics := none }

def pool1 : Array CpInfo := pool [(2, .class_ 4), (1, u "java/lang/Object"), (0, u "<init>"), (0, u "()V"), (0, .long 4294967295), (1, .methodref 10 11), (0, .class_ 12), (0, .nameAndType 13 14), (0, u "com/example/stentor/stentor/server/ZxidsFollowsPinLaw"), (0, u "make"), (0, u "(II)J"), (2, .integer 2147483648), (0, .methodref 19 20), (0, .class_ 21), (0, .nameAndType 22 23), (0, u "com/example/stentor/stentor/server/Zxids"), (0, u "follows"), (0, u "(JJ)Z"), (2, u "law"), (0, u "(IIIII)Z")] 3

def k1m0 : Method := { name := "<init>", desc := "()V", sig := { parameters := [], returnType := none }, accessFlags := 2, code := none }
def k1c1 : Code := { maxStack := 6, maxLocals := 2, code := method_2_code, exceptionTable := #[], attributes := #[] }
def k1m1 : Method := { name := "make", desc := "(II)J", sig := { parameters := [.int, .int], returnType := some .long }, accessFlags := 10, code := some k1c1 }
def k1c2 : Code := { maxStack := 4, maxLocals := 18, code := code, exceptionTable := #[], attributes := #[] }
def k1m2 : Method := { name := "law", desc := "(IIIII)Z", sig := { parameters := [.int, .int, .int, .int, .int], returnType := some .boolean }, accessFlags := 9, code := some k1c2 }
/-- com/example/stentor/stentor/server/ZxidsFollowsPinLaw -/
def k1 : Class := { plain "com/example/stentor/stentor/server/ZxidsFollowsPinLaw" (some 0) with
  accessFlags := 49
  interfaces := #[]
  cf := some (fileOf pool1 10 #[] #[{ accessFlags := 2, nameIndex := 5, descriptorIndex := 6, attributes := #[] }, { accessFlags := 10, nameIndex := 13, descriptorIndex := 14, attributes := #[] }, { accessFlags := 9, nameIndex := 26, descriptorIndex := 27, attributes := #[] }] 49 2 #[] #[])
  fields := #[]
  methods := #[k1m0, k1m1, k1m2]
  instanceTypes := #[]
  staticTypes := #[]
  resolved := Array.replicate 31 none
  statics := none }

def pool2 : Array CpInfo := pool [(2, .class_ 4), (1, u "java/lang/Object"), (0, u "<init>"), (0, u "()V"), (2, .methodref 10 11), (0, .class_ 12), (0, .nameAndType 13 14), (0, u "com/example/stentor/stentor/server/Zxids"), (0, u "epoch"), (0, u "(J)J"), (0, .long 4294967295), (11, u "COUNTER"), (0, u "J"), (4, u "follows"), (0, u "(JJ)Z")] 19

def k2m0 : Method := { name := "<init>", desc := "()V", sig := { parameters := [], returnType := none }, accessFlags := 2, code := none }
def k2c1 : Code := { maxStack := 3, maxLocals := 2, code := prog_94_method_2_code, exceptionTable := #[], attributes := #[] }
def k2m1 : Method := { name := "epoch", desc := "(J)J", sig := { parameters := [.long], returnType := some .long }, accessFlags := 8, code := some k2c1 }
def k2c2 : Code := { maxStack := 6, maxLocals := 4, code := prog_94_method_4_code, exceptionTable := #[], attributes := #[] }
def k2m2 : Method := { name := "follows", desc := "(JJ)Z", sig := { parameters := [.long, .long], returnType := some .boolean }, accessFlags := 8, code := some k2c2 }
/-- com/example/stentor/stentor/server/Zxids -/
def k2 : Class := { plain "com/example/stentor/stentor/server/Zxids" (some 0) with
  accessFlags := 48
  interfaces := #[]
  cf := some (fileOf pool2 10 #[] #[{ accessFlags := 2, nameIndex := 5, descriptorIndex := 6, attributes := #[] }, { accessFlags := 8, nameIndex := 13, descriptorIndex := 14, attributes := #[] }, { accessFlags := 8, nameIndex := 33, descriptorIndex := 34, attributes := #[] }] 48 2 #[] #[{ accessFlags := 26, nameIndex := 27, descriptorIndex := 28, attributes := #[] }])
  fields := #[{ name := "COUNTER", type := .long, accessFlags := 26, slot := 0, constantValue := 0 }]
  methods := #[k2m0, k2m1, k2m2]
  instanceTypes := #[]
  staticTypes := #[.long]
  resolved := Array.replicate 54 none
  statics := none }

def pool3 : Array CpInfo := pool [(1, u "java/lang/Cloneable"), (0, .class_ 1), (0, u "java/lang/Object"), (0, .class_ 3)] 3

/-- java/lang/Cloneable -/
def k3 : Class := { plain "java/lang/Cloneable" (some 0) with
  accessFlags := 1537
  interfaces := #[]
  cf := some (fileOf pool3 2 #[] #[] 1537 4 #[] #[])
  fields := #[]
  methods := #[]
  instanceTypes := #[]
  staticTypes := #[]
  resolved := Array.replicate 8 none
  statics := none }

def pool4 : Array CpInfo := pool [(1, u "java/io/Serializable"), (0, .class_ 1), (0, u "java/lang/Object"), (0, .class_ 3)] 3

/-- java/io/Serializable -/
def k4 : Class := { plain "java/io/Serializable" (some 0) with
  accessFlags := 1537
  interfaces := #[]
  cf := some (fileOf pool4 2 #[] #[] 1537 4 #[] #[])
  fields := #[]
  methods := #[]
  instanceTypes := #[]
  staticTypes := #[]
  resolved := Array.replicate 8 none
  statics := none }

/-- the primitive byte -/
def k5 : Class := { plain "byte" none with kind := .primitive 'B', accessFlags := 0x411 }
/-- [B -/
def k6 : Class := { plain "[B" (some 0) with kind := .array 5 .byte, interfaces := #[3, 4], accessFlags := 1041 }

/-- the primitive int -/
def k7 : Class := { plain "int" none with kind := .primitive 'I', accessFlags := 0x411 }
/-- [I -/
def k8 : Class := { plain "[I" (some 0) with kind := .array 7 .int, interfaces := #[3, 4], accessFlags := 1041 }

def heap : Heap := #[]
def classes : Array Class := #[k0, k1, k2, k3, k4, k5, k6, k7, k8]
def interned : List (Array UInt16 × Addr) := []
def slotsUsed : Nat := 0
def theMethod : MethodId := ⟨1, 2⟩
def args0 : Array Value := #[.int 5, .int 300, .int 7, .int 9, .int 3]
def aboutOver (below : List Frame) : State where
  vm := { classes := classes, interned := interned.toArray }
  heap := heap
  slotsUsed := slotsUsed
  threads := #[{ frames := .invoking theMethod args0 :: below }]
def below0 : List Frame := [.native { method := ⟨0, 0⟩, args := #[] }]
def about1 : State := aboutOver below0
def p0 : Program := .bare "" "" ""
def e0 : Env := launch0.env 0 0 0
theorem w_frames : about1.frames = Frame.invoking theMethod args0 :: below0 := rfl
set_option maxRecDepth 65536 in
theorem w_args : argsFit about1.vm theMethod args0 = true := by decide +kernel
set_option maxRecDepth 65536 in
theorem w_heap : heapFits about1 = true := by decide +kernel
set_option maxRecDepth 65536 in
theorem w_runnable : about1.curStatus? = some .runnable := by decide +kernel
set_option maxRecDepth 65536 in
theorem w_alone : about1.alone = true := by decide +kernel
set_option maxRecDepth 65536 in
theorem w_named : about1.methodNamed? x = some theMethod := by decide +kernel
set_option maxRecDepth 65536 in
theorem w_hears : about1.hears theMethod below0 = true := by decide +kernel
set_option maxRecDepth 65536 in
theorem w_ripe : about1.ripe theMethod args0 below0 = true := by decide +kernel
theorem w_running : about1.status = .running := rfl
set_option maxRecDepth 65536 in
theorem w_room : about1.hasRoom e0.platform room_1 = true :=
  launch0.hasRoom_least _ room_1 (by decide +kernel) (by decide +kernel) (by decide +kernel) (by decide +kernel) (by decide +kernel) (by decide +kernel)
theorem allAtoms_all (ts : List Jvm.Cond) (a : Array Jvm.Value) (st : Jvm.State) : (allAtoms ts).before a st = ts.all (fun c => c.before a st) := by
  induction ts with
  | nil => rfl
  | cons c t ih =>
    show (Jvm.Cond.and c (allAtoms t)).before a st = _
    rw [Jvm.Cond.before_and, ih, List.all_cons]
def words1 : List Jvm.Cond := Jvm.Cond.code x code maxLocals ret :: tables_1
/-- a 'code' word, met by the world's own term for the bytes: nothing is compared byte by byte -/
theorem code_word {y : MethodName} {bytes : ByteArray} {mx : Nat} {rt : Option FieldType} {a : Array Value} {s : State} {m : MethodId} {meth : Method} {c : Code} (h1 : s.methodNamed? y = some m) (h2 : s.vm.method? m = some meth) (h3 : meth.code = some c) (h4 : c.code = bytes)
    (h5 : (c.maxLocals == mx && c.exceptionTable.isEmpty && decide (c.maxStack ≤ mostOperands) && decide (meth.sig.returnType = rt) && !meth.locks && decide (parseMethodDescriptor y.desc = some meth.sig)) = true) : (Jvm.Cond.code y bytes mx rt).before a s = true := by
  simp only [Bool.and_eq_true, beq_iff_eq, Bool.not_eq_true', decide_eq_true_eq] at h5
  obtain ⟨⟨⟨⟨⟨g1, g2⟩, g3⟩, g4⟩, g5⟩, g6⟩ := h5
  simp [Cond.before, Cond.holds, Cond.value, h1, h2, h3, h4, g1, g2, g3, g4, g5, g6]
def isCode : Jvm.Cond → Bool
  | .code _ _ _ _ => true
  | _ => false
theorem all_split {L : List Jvm.Cond} {P : Jvm.Cond → Bool} (h1 : L.all (fun c => isCode c || P c) = true) (h2 : ∀ c ∈ L.filter isCode, P c = true) : L.all P = true := by
  refine List.all_eq_true.mpr fun c hc => ?_
  have h := List.all_eq_true.mp h1 c hc
  rcases Bool.eq_false_or_eq_true (isCode c) with hi | hi
  · exact h2 c (List.mem_filter.mpr ⟨hc, hi⟩)
  · simpa [hi] using h
set_option maxRecDepth 65536 in
theorem w_c0 : (Jvm.Cond.code x code maxLocals ret).before args0 about1 = true := code_word (m := ⟨1, 2⟩) (meth := k1m2) (c := k1c2) (by decide +kernel) rfl rfl rfl (by decide +kernel)
set_option maxRecDepth 65536 in
theorem w_c1 : (Jvm.Cond.code ({ cls := "com/example/stentor/stentor/server/ZxidsFollowsPinLaw", name := "make", desc := "(II)J" } : Jvm.MethodName) method_2_code (2 : Nat) (Option.some Jvm.ClassFile.FieldType.long)).before args0 about1 = true := code_word (m := ⟨1, 1⟩) (meth := k1m1) (c := k1c1) (by decide +kernel) rfl rfl rfl (by decide +kernel)
set_option maxRecDepth 65536 in
theorem w_c2 : (Jvm.Cond.code ({ cls := "com/example/stentor/stentor/server/Zxids", name := "follows", desc := "(JJ)Z" } : Jvm.MethodName) prog_94_method_4_code (4 : Nat) (Option.some Jvm.ClassFile.FieldType.boolean)).before args0 about1 = true := code_word (m := ⟨2, 2⟩) (meth := k2m2) (c := k2c2) (by decide +kernel) rfl rfl rfl (by decide +kernel)
set_option maxRecDepth 65536 in
theorem w_c3 : (Jvm.Cond.code ({ cls := "com/example/stentor/stentor/server/Zxids", name := "epoch", desc := "(J)J" } : Jvm.MethodName) prog_94_method_2_code (2 : Nat) (Option.some Jvm.ClassFile.FieldType.long)).before args0 about1 = true := code_word (m := ⟨2, 1⟩) (meth := k2m1) (c := k2c1) (by decide +kernel) rfl rfl rfl (by decide +kernel)
def codes1 : List Jvm.Cond := [Jvm.Cond.code x code maxLocals ret, Jvm.Cond.code ({ cls := "com/example/stentor/stentor/server/ZxidsFollowsPinLaw", name := "make", desc := "(II)J" } : Jvm.MethodName) method_2_code (2 : Nat) (Option.some Jvm.ClassFile.FieldType.long), Jvm.Cond.code ({ cls := "com/example/stentor/stentor/server/Zxids", name := "follows", desc := "(JJ)Z" } : Jvm.MethodName) prog_94_method_4_code (4 : Nat) (Option.some Jvm.ClassFile.FieldType.boolean), Jvm.Cond.code ({ cls := "com/example/stentor/stentor/server/Zxids", name := "epoch", desc := "(J)J" } : Jvm.MethodName) prog_94_method_2_code (2 : Nat) (Option.some Jvm.ClassFile.FieldType.long)]
set_option maxRecDepth 65536 in
theorem codes_eq : words1.filter isCode = codes1 := rfl
theorem w_codes : ∀ c ∈ words1.filter isCode, c.before args0 about1 = true := by
  rw [codes_eq]
  intro c hc
  simp only [codes1, List.mem_cons, List.not_mem_nil, or_false] at hc
  rcases hc with rfl | rfl | rfl | rfl
  · exact w_c0
  · exact w_c1
  · exact w_c2
  · exact w_c3
set_option maxRecDepth 65536 in
theorem w_t1 : words1.all (fun c => isCode c || c.before args0 about1) = true := by decide +kernel
theorem w_tables : (allAtoms (Jvm.Cond.code x code maxLocals ret :: tables_1)).before args0 about1 = true := by
  rw [allAtoms_all]
  show words1.all (fun c => c.before args0 about1) = true
  refine all_split ?_ w_codes
  rw [w_t1]
set_option maxRecDepth 65536 in
theorem w_case : (Jvm.Cond.and given_1 narrow_1).before args0 about1 = true := by decide +kernel
theorem w_applies : (headSpec (Jvm.Cond.code x code maxLocals ret :: tables_1) room_1).applies x e0.platform about1 = true :=
  (Spec.applies_iff w_frames).mpr ⟨w_running, w_runnable, w_alone, w_named, w_hears, w_ripe, w_room, w_tables⟩
theorem atStart : AtStart classFile x code maxLocals ret World_1 tables_1 room_1 Calls_1 rest_1 Pre_1 launch0 p0 e0 about1 theMethod args0 below0 :=
  ⟨lists_1, trivial, launch0.admits_env _ _ _, launch0.least_env, fairChoices_fair.cas, fairChoices_fair.clock, w_frames, w_args, w_heap, w_applies, trivial, trivial, w_case⟩
end start1
theorem witness_1 : WitnessClaimed_1 := ⟨start1.p0, start1.e0, start1.about1, start1.theMethod, start1.args0, start1.below0, start1.atStart⟩
end Jvm.Pilot.@@N@@
