import JvmDerived
import JvmDerived.Pilot.@@N@@Statement
import JvmDerived.Pilot.@@N@@Code
set_option linter.unusedVariables false
set_option linter.unusedSimpArgs false
namespace Jvm.Pilot.@@N@@
open Jvm.FP Jvm.FP.Core
def own_up : Datum → Datum
  | .fin s c q => .fin s c (q + 2)
  | d => d
def own_Qt (i : Int) (d : Datum) : Prop := Whole i (own_up d)
theorem own_rr {s : Bool} {c : Nat} {q i : Int} (h : Whole i (.fin s c (q + 2))) (hi : i.natAbs ≤ 2 ^ 53) : own_Qt i (roundRatio b64 s c 1 q) := by
  have hn := whole_natAbs h
  have e : roundRatio b64 s c 1 q = roundRatio b64 s i.natAbs 1 (-2) := by
    refine roundRatio_congr (by decide) (by decide) ?_
    rw [show (q - -2).toNat = (q + 2).toNat by omega, show (-2 - q).toNat = (-(q + 2)).toNat by omega]
    simpa using hn
  rw [e]
  by_cases h0 : i = 0
  · subst h0
    show Whole 0 (own_up (roundRatio b64 s 0 1 (-2)))
    have : roundRatio b64 s 0 1 (-2) = .fin s 0 b64.qmin := rfl
    rw [this]
    show signed s (0 * _) = 0 * _
    rw [Nat.zero_mul, Int.zero_mul]
    cases s <;> rfl
  · obtain ⟨c', q', hfit, hv⟩ := natFit good_b64 wide_b64 s (n := i.natAbs) hi
    have hw := whole_round good_b64 wide_b64 (show i.natAbs ≤ 2 ^ b64.p from hi) h
    rw [round_whole h, roundRatio_exact good_b64 (by decide) hfit hv] at hw
    obtain ⟨f1, f2, f3, f4⟩ := hfit
    have hp : (b64.p : Nat) = 53 := rfl
    have hqm : b64.qmin = -1074 := by decide
    have hqM : b64.qmax = 971 := by decide
    have hn0 : 0 < i.natAbs := by omega
    have hq : -53 < q' := by
      refine Int.lt_of_not_ge fun hle => ?_
      rw [show (q' - 0).toNat = 0 by omega, Nat.pow_zero, Nat.mul_one, Nat.mul_one] at hv
      have h53 : 2 ^ 53 ≤ 2 ^ (0 - q').toNat := Nat.pow_le_pow_right (by decide) (by omega)
      have : 1 * 2 ^ 53 ≤ i.natAbs * 2 ^ (0 - q').toNat := Nat.mul_le_mul hn0 h53
      rw [hv] at this
      rw [hp] at f1
      omega
    have hfit2 : Jvm.FP.Core.fits b64 (.fin s c' (q' - 2)) := ⟨f1, by omega, by omega, Or.inr (f4.resolve_left (by omega))⟩
    rw [roundRatio_exact good_b64 (by decide) hfit2 (by rw [show (-2 - (q' - 2)).toNat = (0 - q').toNat by omega, show (q' - 2 - -2).toNat = (q' - 0).toNat by omega]; exact hv)]
    show Whole i (.fin s c' (q' - 2 + 2))
    rw [show q' - 2 + 2 = q' by omega]
    exact hw
def own_four : Datum := .fin false 4503599627370496 (-50)
theorem own_div {i : Int} {x : Datum} (hx : Whole i x) (hi : i.natAbs ≤ 2 ^ 53) : own_Qt i (quotient b64 x own_four) := by
  cases x with
  | nan => exact hx.elim
  | inf => exact hx.elim
  | fin s c q =>
    have e : quotient b64 (.fin s c q) own_four = roundRatio b64 s c 1 (q - 2) := by
      show (if (4503599627370496 : Nat) = 0 then (if c = 0 then Datum.nan else Datum.inf (s != false)) else roundRatio b64 (s != false) c 4503599627370496 (q - -50)) = _
      rw [if_neg (by decide), Bool.bne_false]
      refine roundRatio_congr (by decide) (by decide) ?_
      rw [show (q - -50 - (q - 2)).toNat = 52 by omega, show (q - 2 - (q - -50)).toNat = 0 by omega]
      simp
    rw [e]
    exact own_rr (by rw [show q - 2 + 2 = q by omega]; exact hx) hi
theorem own_inU (c : Nat) (q e : Int) : inUnits c (q + 2) (e + 2) = inUnits c q e := by
  unfold inUnits; rw [show (q + 2 - (e + 2)) = q - e by omega]
theorem own_min (q r : Int) : min (q + 2) (r + 2) = min q r + 2 := by omega
theorem own_add {i j : Int} {x y : Datum} (hx : own_Qt i x) (hy : own_Qt j y) (h : (i + j).natAbs ≤ 2 ^ 53) : own_Qt (i + j) (round b64 (exactSum x y)) := by
  cases x with
  | nan => exact hx.elim
  | inf => exact hx.elim
  | fin s c q =>
  cases y with
  | nan => exact hy.elim
  | inf => exact hy.elim
  | fin t d r =>
    have hs := whole_sum (x := .fin s c (q + 2)) (y := .fin t d (r + 2)) hx hy
    simp only [exactSum, own_min, sumUnits, own_inU] at hs
    exact own_rr hs h
theorem own_whole4 {j : Int} {y : Datum} (hy : Whole j y) : own_Qt (4 * j) y := by
  cases y with
  | nan => exact hy.elim
  | inf => exact hy.elim
  | fin t d r =>
    have h4 : Whole 4 (.fin false 1 2) := by show signed false (1 * 2 ^ 2) = 4 * ((1 : Nat) : Int); decide
    have := whole_product hy h4
    simp only [exactProduct, Bool.bne_false, Nat.mul_one] at this
    rw [Int.mul_comm] at this
    exact this
theorem own_mul4 {k : Int} {x : Datum} (hx : own_Qt k x) (hk : k.natAbs ≤ 2 ^ 53) : Whole k (round b64 (exactProduct x own_four)) := by
  cases x with
  | nan => exact hx.elim
  | inf => exact hx.elim
  | fin s c q =>
    have e : round b64 (exactProduct (.fin s c q) own_four) = round b64 (.fin s c (q + 2)) := by
      show roundRatio b64 (s != false) (c * 4503599627370496) 1 (q + -50) = roundRatio b64 s c 1 (q + 2)
      rw [Bool.bne_false]
      refine roundRatio_congr (by decide) (by decide) ?_
      rw [show (q + -50 - (q + 2)).toNat = 0 by omega, show (q + 2 - (q + -50)).toNat = 52 by omega]
      simp
    rw [e]
    exact whole_round good_b64 wide_b64 (show _ ≤ 2 ^ b64.p from hk) hx
theorem own_sgn {k : Int} {x : Datum} (hx : own_Qt k x) : order x (.fin false 0 (-1074)) = some (compare k 0) := by
  cases x with
  | nan => exact hx.elim
  | inf => exact hx.elim
  | fin s c q =>
    have h0 : Whole 0 (.fin false 0 (-1074 + 2)) := by show signed false (0 * _) = 0 * _; rw [Nat.zero_mul, Int.zero_mul]; rfl
    have := order_whole (x := .fin s c (q + 2)) hx h0
    simp only [order, own_min, own_inU] at this ⊢
    exact this
theorem own_nn {x : UInt64} {d : Datum} (h : val64 x = d) (hd : d ≠ .nan) : Jvm.Free.Fl.NoNaN64 x := Jvm.Free.Fl.noNaN64_no.mpr (by
  show decide (val64 x = .nan) = false
  rw [h]; simpa using hd)
theorem own_Qnn {k : Int} {x : UInt64} (h : own_Qt k (val64 x)) : Jvm.Free.Fl.NoNaN64 x := own_nn rfl (fun q => by rw [q] at h; exact h)
theorem own_Wnn {k : Int} {x : UInt64} (h : Whole k (val64 x)) : Jvm.Free.Fl.NoNaN64 x := own_nn rfl (fun q => by rw [q] at h; exact h)
theorem own_v4 : val64 4616189618054758400 = own_four := by decide +kernel
theorem own_v0 : val64 0 = .fin false 0 (-1074) := by decide +kernel
theorem own_ddiv (a : Int32) : own_Qt a.toInt (val64 (Jvm.FP.ddiv (Jvm.FP.i2d a) 4616189618054758400)) := by
  have h1 := a.toInt_lt
  have h2 := a.le_toInt
  show own_Qt _ (val64 (Core.ddiv (Core.i2d a) _))
  rw [val64_ddiv, own_v4]
  exact own_div (i2d_int a) (by omega)
theorem own_dadd {k : Int} {x : UInt64} (h : own_Qt k (val64 x)) (b : Int32) (hk : k.natAbs ≤ 2 ^ 31) : own_Qt (k + 4 * b.toInt) (val64 (Jvm.FP.dadd x (Jvm.FP.i2d b))) := by
  have h1 := b.toInt_lt
  have h2 := b.le_toInt
  show own_Qt _ (val64 (Core.dadd x (Core.i2d b)))
  rw [val64_dadd]
  exact own_add h (own_whole4 (i2d_int b)) (by omega)
theorem own_dmul {k : Int} {x : UInt64} (h : own_Qt k (val64 x)) (hk : k.natAbs ≤ 2 ^ 53) : Whole k (val64 (Jvm.FP.dmul x 4616189618054758400)) := by
  show Whole _ (val64 (Core.dmul x _))
  rw [val64_dmul, own_v4]
  exact own_mul4 h hk
theorem own_cmp0 {k : Int} {x : UInt64} (h : own_Qt k (val64 x)) : Jvm.FP.dcmp x Jvm.FP.dconst0 = some (compare k 0) := by
  show order (val64 x) (val64 0) = _
  rw [own_v0]; exact own_sgn h
theorem own_cmpE {k : Int} {x y : UInt64} (h : Whole k (val64 x)) (h2 : Whole k (val64 y)) : Jvm.FP.dcmp x y = some .eq := by
  show order (val64 x) (val64 y) = _
  rw [order_whole h h2]
  simp
end Jvm.Pilot.@@N@@
namespace Jvm.RoadKit
open Sem ClassFile Op Lib Jvm.Stand Jvm.Free Jvm.LawKit
section New
variable {p : Program} {l : Launch} {e : Env} {R : Room} {s : State} {m : MethodId} {args : Array Value} {below : List Frame} {meth : Method} {c : Code} {T : State} {locs : List Loc} {cells slots : Nat}
theorem retI (X : Stand p l e R s m args below meth c T locs cells slots) (hx : p.tables.exec = Jvm.exec) {pc : Nat} {Ls : Array Slot} {z : Int32} {rest : List Value} (hret : meth.sig.returnType = some .int) (hd : decode c.code pc = .ok (.ireturn, 1)) {fs : List Frame}
    (hl : ∀ (f : JFrame) (acts : List Action), f.method = m → f.locked = none → f.entered = [] → (doReturn e (T.setTop f) acts (some (.int z))).1 = T.setFrames fs) : Steps p.tables e below (T.setTop (mkF m pc Ls (.int z :: rest))) (T.setFrames fs) := by
  have hm' : T.vm.method? m = some meth := X.method'
  have hn : narrow .int (.int z) = .int z := rfl
  show Steps p.tables e below (T.setTop { method := m, pc := pc, locals := Ls, stack := _ :: rest, locked := none }) _
  jvm_step X.here [X.here.top, hx, hd, hm', hret, hn]
  first | (intro acts; rw [hl _ acts rfl rfl rfl]) | rw [hl _ _ rfl rfl rfl]
  exact Steps.refl _
end New
end Jvm.RoadKit
namespace Jvm.Pilot.@@N@@
open Jvm Jvm.ClassFile Sem Op Lib Jvm.Free Jvm.Stand Jvm.LawKit Jvm.RoadKit Bundle Jvm.Pilot.@@N@@.Jvm.D
/-! The walk in a goal-driven form: own_Fin says that the run from A comes to an end at which Q holds, within the frame. -/
def own_Fin (p : Program) (e : Env) (below : List Frame) (s : State) (Q : Option Value → Heap → List Loc → Prop) (kc ks : Nat) (A : State) : Prop :=
  ∃ s₂ o, Steps p.tables e below A s₂ ∧ s₂.status = .running ∧ Ended s₂ below o ∧ ∃ v L, o = .returned v ∧ Q v s₂.heap L ∧ FrameEnd s o s₂ L kc ks
theorem own_Fin.go {p : Program} {e : Env} {below : List Frame} {s : State} {Q : Option Value → Heap → List Loc → Prop} {kc ks : Nat} {A B : State} (st : ∀ t, Steps p.tables e below B t → Steps p.tables e below A t) (h : own_Fin p e below s Q kc ks B) : own_Fin p e below s Q kc ks A := by
  obtain ⟨s₂, o, h1, h2⟩ := h
  exact ⟨s₂, o, st _ h1, h2⟩
section OwnRet
variable {p : Program} {l : Launch} {e : Env} {R : Room} {s : State} {m : MethodId} {args : Array Value} {below : List Frame} {meth : Method} {c : Code} {T : State} {locs : List Loc} {cells slots : Nat} {Q : Option Value → Heap → List Loc → Prop} {kc ks : Nat}
theorem own_end (X : Stand p l e R s m args below meth c T locs cells slots) {v : Option Value} (hv : meth.sig.returnType = none → v = none) (hlocks : meth.locks = false) (hc : cells ≤ kc) (hs : slots ≤ ks) {A : State}
    (h : ∀ fs : List Frame, (∀ (f : JFrame) (acts : List Action), f.method = m → f.locked = none → f.entered = [] → (doReturn e (T.setTop f) acts v).1 = T.setFrames fs) → Steps p.tables e below A (T.setFrames fs)) (hQ : Q v T.heap locs) : own_Fin p e below s Q kc ks A := by
  obtain ⟨fs, hr, hrun, hended, hW, hsame⟩ := X.leave (v := v) hv hlocks
  exact ⟨_, _, h fs hr, hrun, hended, _, _, rfl, hQ, ⟨_, rfl⟩, hW, hsame.mono hc hs⟩
theorem own_retN (X : Stand p l e R s m args below meth c T locs cells slots) (hx : p.tables.exec = Jvm.exec) {pc : Nat} {Ls : Array Slot} {z w : Int32} {t : FieldType} {rest : List Value} (hret : meth.sig.returnType = some t) (ht : t = .boolean ∨ t = .byte ∨ t = .char ∨ t = .short)
    (hd : decode c.code pc = .ok (.ireturn, 1)) (hlocks : meth.locks = false) (hw : nar t z = w) (hc : cells ≤ kc) (hs : slots ≤ ks) (hQ : Q (some (.int w)) T.heap locs) : own_Fin p e below s Q kc ks (T.setTop (mkF m pc Ls (.int z :: rest))) :=
  own_end X (v := some (.int w)) (fun h => by rw [hret] at h; cases h) hlocks hc hs (fun fs hr => retN X hx hret ht hd (by rw [hw]; exact hr)) hQ
theorem own_retI (X : Stand p l e R s m args below meth c T locs cells slots) (hx : p.tables.exec = Jvm.exec) {pc : Nat} {Ls : Array Slot} {z : Int32} {rest : List Value} (hret : meth.sig.returnType = some .int)
    (hd : decode c.code pc = .ok (.ireturn, 1)) (hlocks : meth.locks = false) (hc : cells ≤ kc) (hs : slots ≤ ks) (hQ : Q (some (.int z)) T.heap locs) : own_Fin p e below s Q kc ks (T.setTop (mkF m pc Ls (.int z :: rest))) :=
  own_end X (v := some (.int z)) (fun h => by rw [hret] at h; cases h) hlocks hc hs (fun fs hr => retI X hx hret hd hr) hQ
theorem own_retJ (X : Stand p l e R s m args below meth c T locs cells slots) (hx : p.tables.exec = Jvm.exec) {pc : Nat} {Ls : Array Slot} {z : Int64} (hret : meth.sig.returnType = some .long)
    (hd : decode c.code pc = .ok (.lreturn, 1)) (hlocks : meth.locks = false) (hc : cells ≤ kc) (hs : slots ≤ ks) (hQ : Q (some (.long z)) T.heap locs) : own_Fin p e below s Q kc ks (T.setTop (mkF m pc Ls [.long z])) :=
  own_end X (v := some (.long z)) (fun h => by rw [hret] at h; cases h) hlocks hc hs (fun fs hr => X.lreturnOut hx hret hd hr) hQ
theorem own_retA (X : Stand p l e R s m args below meth c T locs cells slots) (hx : p.tables.exec = Jvm.exec) {pc : Nat} {Ls : Array Slot} {a : Addr} {t : FieldType} {rest : List Value} (hret : meth.sig.returnType = some t) (ht : t.isReference = true)
    (hd : decode c.code pc = .ok (.areturn, 1)) (hlocks : meth.locks = false) (hc : cells ≤ kc) (hs : slots ≤ ks) (hQ : Q (some (.ref a)) T.heap locs) : own_Fin p e below s Q kc ks (T.setTop (mkF m pc Ls (.ref a :: rest))) :=
  own_end X (v := some (.ref a)) (fun h => by rw [hret] at h; cases h) hlocks hc hs (fun fs hr => retOut X hx hret (by cases t <;> first | rfl | (simp [FieldType.isReference] at ht)) (Or.inr (Or.inr (Or.inr (Or.inr ⟨rfl, ht, rfl⟩)))) hd hr) hQ
theorem own_ret0 (X : Stand p l e R s m args below meth c T locs cells slots) (hx : p.tables.exec = Jvm.exec) {pc : Nat} {Ls : Array Slot} (hret : meth.sig.returnType = none)
    (hd : decode c.code pc = .ok (.return_, 1)) (hlocks : meth.locks = false) (hc : cells ≤ kc) (hs : slots ≤ ks) (hQ : Q none T.heap locs) : own_Fin p e below s Q kc ks (T.setTop (mkF m pc Ls [])) :=
  own_end X (v := none) (fun _ => rfl) hlocks hc hs (fun fs hr => X.returnOut hx hret hd hr) hQ
end OwnRet
theorem own_selp {s : State} {args args' : Array Value} {C : String} {y w : MethodName} (hw : (Jvm.Cond.selects C w w).before args s = true) (hcls : w.cls = y.cls) (hpriv : s.PrivateAt y) (hinst : (Jvm.Cond.instanceMethod y).before args s = true) (hy : y.cls ≠ "java/lang/invoke/MethodHandle" ∧ y.cls ≠ "java/lang/invoke/VarHandle") : (Jvm.Cond.selects y.cls y y).before args' s = true := by
  obtain ⟨c2, r2, m2, -, -, q3, -, kP, hkP, hkPi⟩ := Cond.selects_spec hw
  exact selects_self_of_private (by rw [← hcls]; exact findClass_of_methodNamed q3) hkP hkPi hpriv hinst hy
theorem own_retD {p : Program} {l : Launch} {e : Env} {R : Room} {s : State} {m : MethodId} {args : Array Value} {below : List Frame} {meth : Method} {c : Code} {T : State} {locs : List Loc} {cells slots : Nat} {Q : Option Value → Heap → List Loc → Prop} {kc ks : Nat} (X : Stand p l e R s m args below meth c T locs cells slots) (hx : p.tables.exec = Jvm.exec) {pc : Nat} {Ls : Array Slot} {z : UInt64} {rest : List Value} (hret : meth.sig.returnType = some .double)
    (hd : decode c.code pc = .ok (.dreturn, 1)) (hlocks : meth.locks = false) (hc : cells ≤ kc) (hs : slots ≤ ks) (hQ : Q (some (.double z)) T.heap locs) : own_Fin p e below s Q kc ks (T.setTop (mkF m pc Ls (.double z :: rest))) :=
  own_end X (v := some (.double z)) (fun h => by rw [hret] at h; cases h) hlocks hc hs (fun fs hr => retOut X hx hret rfl (Or.inr (Or.inr (Or.inl ⟨rfl, rfl, z, rfl⟩))) hd hr) hQ
def own_k (k : Int) (b : Int32) : Int := if k < 0 then k + 4 * b.toInt else k
theorem own_lt {k : Int} {x : UInt64} (hq : own_Qt k (Jvm.FP.Core.val64 x)) (h : k < 0) : (cmpValue (Jvm.FP.dcmp x Jvm.FP.dconst0) .g) < (0 : Int32) := by
  rw [own_cmp0 hq, show compare k 0 = Ordering.lt from by rw [Int.compare_eq_lt]; exact h]; decide
theorem own_ge {k : Int} {x : UInt64} (hq : own_Qt k (Jvm.FP.Core.val64 x)) (h : ¬ k < 0) : ¬ (cmpValue (Jvm.FP.dcmp x Jvm.FP.dconst0) .g) < (0 : Int32) := by
  rw [own_cmp0 hq]
  rcases Int.lt_trichotomy k 0 with q | q | q
  · exact absurd q h
  · rw [show compare k 0 = Ordering.eq from by rw [Int.compare_eq_eq]; exact q]; decide
  · rw [show compare k 0 = Ordering.gt from by rw [Int.compare_eq_gt]; exact q]; decide
theorem own_b (a : Int32) : a.toInt.natAbs ≤ 2 ^ 31 := by have h1 := a.toInt_lt; have h2 := a.le_toInt; omega
theorem own_kb (a b : Int32) : (own_k a.toInt b).natAbs ≤ 2 ^ 53 := by
  have h1 := a.toInt_lt; have h2 := a.le_toInt; have h3 := b.toInt_lt; have h4 := b.le_toInt
  unfold own_k; split <;> omega
theorem own_eq {a b : Int32} {r : UInt64} {x : Int64} (h : own_Qt (own_k a.toInt b) (Jvm.FP.Core.val64 r)) (e : x.toInt = own_k a.toInt b) : (cmpValue (Jvm.FP.dcmp (Jvm.FP.dmul r (4616189618054758400 : UInt64)) (Jvm.FP.l2d x)) .l) = (0 : Int32) := by
  have hx : Jvm.FP.Core.Whole (own_k a.toInt b) (Jvm.FP.Core.val64 (Jvm.FP.l2d x)) := by
    rw [← e]; exact Jvm.FP.Core.l2d_int (by rw [e]; exact own_kb a b)
  rw [own_cmpE (own_dmul h (own_kb a b)) hx]; rfl
theorem own_x1 {a b : Int32} (h : a < 0) : (a.toInt64 + ((4 : Int64) * b.toInt64)).toInt = own_k a.toInt b := by
  have h1 := c_lmul 4 b.toInt64
  have h2 := c_ladd a.toInt64 (4 * b.toInt64)
  have h3 := c_i2l a
  have h4 := c_i2l b
  have r1 := rng64 (4 * b.toInt64)
  have r2 := rng64 (a.toInt64 + 4 * b.toInt64)
  have r3 := rng32 a
  have r4 := rng32 b
  have e0 : (0 : Int32).toInt = 0 := rfl
  have e4 : (4 : Int64).toInt = 4 := rfl
  rw [Int32.lt_iff_toInt_lt] at h
  rw [e4] at h1
  unfold own_k; rw [if_pos (by omega)]; omega
theorem own_x2 {a b : Int32} (h : ¬ a < 0) : (a.toInt64).toInt = own_k a.toInt b := by
  have e0 : (0 : Int32).toInt = 0 := rfl
  rw [Int32.lt_iff_toInt_lt] at h
  unfold own_k; rw [if_neg (by omega), c_i2l]
theorem own_dfs_0 : decode prog_5_method_2_code 0 = .ok (.dload_n 0, 1) := by decide +kernel
theorem own_dfs_1 : decode prog_5_method_2_code 1 = .ok (.dconst 0, 1) := by decide +kernel
theorem own_dfs_2 : decode prog_5_method_2_code 2 = .ok (.dcmp .g, 1) := by decide +kernel
theorem own_dfs_3 : decode prog_5_method_2_code 3 = .ok (.ifCond .ge 10, 3) := by decide +kernel
theorem own_dfs_6 : decode prog_5_method_2_code 6 = .ok (.dload_n 0, 1) := by decide +kernel
theorem own_dfs_7 : decode prog_5_method_2_code 7 = .ok (.iload_n 2, 1) := by decide +kernel
theorem own_dfs_8 : decode prog_5_method_2_code 8 = .ok (.i2d, 1) := by decide +kernel
theorem own_dfs_9 : decode prog_5_method_2_code 9 = .ok (.dadd, 1) := by decide +kernel
theorem own_dfs_10 : decode prog_5_method_2_code 10 = .ok (.goto 4, 3) := by decide +kernel
theorem own_dfs_13 : decode prog_5_method_2_code 13 = .ok (.dload_n 0, 1) := by decide +kernel
theorem own_dfs_14 : decode prog_5_method_2_code 14 = .ok (.dreturn, 1) := by decide +kernel
theorem own_pn0 : plainName "com/example/crisp_calls/crispcalls/function/Indexes" = true := by first | (simp [plainName, overriddenIn]; done) | decide +kernel
theorem own_ef_fs (m : MethodId) (vx : UInt64) (vb : Int32) : entryFrame m #[(.double vx), (.int vb)] 3 = mkF m 0 #[.val (.double vx), .second, .val (.int vb)] [] := by first | (simp [entryFrame, mkF, argsToLocals, Value.category]; done) | rfl
def own_Q_fs (Z : State) (vx : UInt64) (vb : Int32) (kq : Int) (h0 : Heap) (n0 : Nat) (v : Option Value) (h : Heap) (L : List Loc) : Prop := ∃ r : UInt64, v = some (.double r) ∧ Fr n0 L ∧ h = h0 ∧ (own_Qt (own_k kq vb) (Jvm.FP.Core.val64 r))
set_option maxRecDepth 65536 in
set_option maxHeartbeats 40000000 in
theorem own_rm_fs (l : Launch) (Z : State) (a0 : Array Value) (hw : ∀ d ∈ tables_1, d.before a0 Z = true) (ws : List Jvm.Cond) (vx : UInt64) (vb : Int32) (kq : Int) (h0 : Heap) (n0 : Nat) (Z0 : n0 ≤ h0.size) (hq : own_Qt kq (Jvm.FP.Core.val64 vx)) (hk : kq.natAbs ≤ 2 ^ 31) :
    MetFree l (⟨"com/example/crisp_calls/crispcalls/function/Indexes", "fromStart", "(DI)D"⟩ : MethodName) (head1 (Jvm.Cond.code (⟨"com/example/crisp_calls/crispcalls/function/Indexes", "fromStart", "(DI)D"⟩ : MethodName) prog_5_method_2_code 3 (some .double) :: ws) ({ frames := 0, cells := 0, slots := 0, locals := 0 } : Room)) (fun a U => a = #[(.double vx), (.int vb)] ∧ Z.Warmed39 U.vm ∧ U.heap = h0) (fun _ _ _ _ _ => True) (fun _ U o U' => ∃ v L, o = .returned v ∧ own_Q_fs Z vx vb kq h0 n0 v U'.heap L ∧ FrameEnd U o U' L ({ frames := 0, cells := 0, slots := 0, locals := 0 } : Room).cells ({ frames := 0, cells := 0, slots := 0, locals := 0 } : Room).slots) := by
  refine MetFree.of_bodySF (plainFor_of_name own_pn0) hisR ?_
  intro p e s m args below meth c s₁ Bd hml0 hP hK
  obtain ⟨rfl, hZ, hh⟩ := hP
  have hx := Bd.exec
  have hby := Bd.bytes
  have hml : c.maxLocals = 3 := hml0
  have hown : s.vm.findClass "com/example/crisp_calls/crispcalls/function/Indexes" = some m.cls := findClass_of_methodNamed Bd.named
  have hnm := (name_of_methodNamed Bd.named Bd.method).1
  have X0 : Stand p l e ({ frames := 0, cells := 0, slots := 0, locals := 0 } : Room) s m #[(.double vx), (.int vb)] below meth c s₁ [] 0 0 := Stand.of_body Bd
  have e0 : s₁.heap = h0 := by rw [← hh, Bd.state]; rfl
  have N0 := Fr.nil n0
  show own_Fin p e below s (own_Q_fs Z vx vb kq h0 n0) ({ frames := 0, cells := 0, slots := 0, locals := 0 } : Room).cells ({ frames := 0, cells := 0, slots := 0, locals := 0 } : Room).slots (s₁.setTop (entryFrame m #[(.double vx), (.int vb)] 3))
  refine own_Fin.go (fun t k => castTop (own_ef_fs m vx vb) k) ?_
  by_cases hk0 : kq < 0
  · show own_Fin _ _ _ _ _ _ _ (s₁.setTop (mkF m 0 #[.val (.double vx), .second, .val (.int vb)] []))
    refine own_Fin.go (fun t k => XS.dloadN X0.here hx rfl (hb hby own_dfs_0) rfl k) ?_
    show own_Fin _ _ _ _ _ _ _ (s₁.setTop (mkF m 1 #[.val (.double vx), .second, .val (.int vb)] [(.double vx)]))
    refine own_Fin.go (fun t k => XS.dconst0 X0.here hx rfl (hb hby own_dfs_1) rfl k) ?_
    show own_Fin _ _ _ _ _ _ _ (s₁.setTop (mkF m 2 #[.val (.double vx), .second, .val (.int vb)] [(.double Jvm.FP.dconst0), (.double vx)]))
    refine own_Fin.go (fun t k => XS.dcmpS X0.here hx rfl (hb hby own_dfs_2) rfl rfl k) ?_
    show own_Fin _ _ _ _ _ _ _ (s₁.setTop (mkF m 3 #[.val (.double vx), .second, .val (.int vb)] [(.int (cmpValue (Jvm.FP.dcmp vx Jvm.FP.dconst0) .g))]))
    have hc3 : (cmpValue (Jvm.FP.dcmp vx Jvm.FP.dconst0) .g) < (0 : Int32) := own_lt hq hk0
    refine own_Fin.go (fun t k => XS.ifNo X0.here hx rfl (hb hby own_dfs_3) rfl (Jvm.Free.XT.i0_ge_f hc3) k) ?_
    show own_Fin _ _ _ _ _ _ _ (s₁.setTop (mkF m 6 #[.val (.double vx), .second, .val (.int vb)] []))
    refine own_Fin.go (fun t k => XS.dloadN X0.here hx rfl (hb hby own_dfs_6) rfl k) ?_
    show own_Fin _ _ _ _ _ _ _ (s₁.setTop (mkF m 7 #[.val (.double vx), .second, .val (.int vb)] [(.double vx)]))
    refine own_Fin.go (fun t k => XS.iloadN X0.here hx rfl (hb hby own_dfs_7) rfl k) ?_
    show own_Fin _ _ _ _ _ _ _ (s₁.setTop (mkF m 8 #[.val (.double vx), .second, .val (.int vb)] [(.int vb), (.double vx)]))
    refine own_Fin.go (fun t k => XS.i2dS X0.here hx rfl (hb hby own_dfs_8) rfl rfl k) ?_
    show own_Fin _ _ _ _ _ _ _ (s₁.setTop (mkF m 9 #[.val (.double vx), .second, .val (.int vb)] [(.double (Jvm.FP.i2d vb)), (.double vx)]))
    refine own_Fin.go (fun t k => XS.daddS X0.here hx rfl (hb hby own_dfs_9) rfl (own_Qnn (own_dadd hq vb hk)) rfl k) ?_
    show own_Fin _ _ _ _ _ _ _ (s₁.setTop (mkF m 10 #[.val (.double vx), .second, .val (.int vb)] [(.double (Jvm.FP.dadd vx (Jvm.FP.i2d vb)))]))
    refine own_Fin.go (fun t k => XS.goto X0.here hx rfl (pc0 := 10) (pc' := 14) rfl (hb hby own_dfs_10) (by decide) (by decide) k) ?_
    show own_Fin _ _ _ _ _ _ _ (s₁.setTop (mkF m 14 #[.val (.double vx), .second, .val (.int vb)] [(.double (Jvm.FP.dadd vx (Jvm.FP.i2d vb)))]))
    refine own_retD X0 hx Bd.returns (hb hby own_dfs_14) Bd.notSynchronized (by decide) (by decide) ?_
    rw [e0]
    exact ⟨_, rfl, N0, rfl, by rw [own_k, if_pos hk0]; exact own_dadd hq vb hk⟩
  · show own_Fin _ _ _ _ _ _ _ (s₁.setTop (mkF m 0 #[.val (.double vx), .second, .val (.int vb)] []))
    refine own_Fin.go (fun t k => XS.dloadN X0.here hx rfl (hb hby own_dfs_0) rfl k) ?_
    show own_Fin _ _ _ _ _ _ _ (s₁.setTop (mkF m 1 #[.val (.double vx), .second, .val (.int vb)] [(.double vx)]))
    refine own_Fin.go (fun t k => XS.dconst0 X0.here hx rfl (hb hby own_dfs_1) rfl k) ?_
    show own_Fin _ _ _ _ _ _ _ (s₁.setTop (mkF m 2 #[.val (.double vx), .second, .val (.int vb)] [(.double Jvm.FP.dconst0), (.double vx)]))
    refine own_Fin.go (fun t k => XS.dcmpS X0.here hx rfl (hb hby own_dfs_2) rfl rfl k) ?_
    show own_Fin _ _ _ _ _ _ _ (s₁.setTop (mkF m 3 #[.val (.double vx), .second, .val (.int vb)] [(.int (cmpValue (Jvm.FP.dcmp vx Jvm.FP.dconst0) .g))]))
    have hc3 : ¬ ((cmpValue (Jvm.FP.dcmp vx Jvm.FP.dconst0) .g) < (0 : Int32)) := own_ge hq hk0
    refine own_Fin.go (fun t k => XS.ifYes X0.here hx rfl (pc0 := 3) (pc' := 13) rfl (hb hby own_dfs_3) rfl (Jvm.Free.XT.i0_ge_t hc3) (by decide) (by decide) k) ?_
    show own_Fin _ _ _ _ _ _ _ (s₁.setTop (mkF m 13 #[.val (.double vx), .second, .val (.int vb)] []))
    refine own_Fin.go (fun t k => XS.dloadN X0.here hx rfl (hb hby own_dfs_13) rfl k) ?_
    show own_Fin _ _ _ _ _ _ _ (s₁.setTop (mkF m 14 #[.val (.double vx), .second, .val (.int vb)] [(.double vx)]))
    refine own_retD X0 hx Bd.returns (hb hby own_dfs_14) Bd.notSynchronized (by decide) (by decide) ?_
    rw [e0]
    exact ⟨_, rfl, N0, rfl, by rw [own_k, if_neg hk0]; exact hq⟩
theorem own_pd0 : parseMethodDescriptor "(DI)D" = some ⟨[.double, .int], some .double⟩ := by decide +kernel
theorem own_pn1 : plainName "com/example/crisp_calls/crispcalls/function/IndexesFromStartPinLaw" = true := by first | (simp [plainName, overriddenIn]; done) | decide +kernel
theorem own_ef_law (m : MethodId) (va : Int32) (vb : Int32) : entryFrame m #[(.int va), (.int vb)] maxLocals = mkF m 0 #[.val (.int va), .val (.int vb), .unset, .unset, .unset, .unset, .unset, .unset] [] := by first | (simp [entryFrame, mkF, argsToLocals, Value.category, maxLocals]; done) | rfl
def own_Q_law (Z : State) (va : Int32) (vb : Int32) (h0 : Heap) (n0 : Nat) (v : Option Value) (h : Heap) (L : List Loc) : Prop := v = some (.int (1 : Int32)) ∧ Fr n0 L
set_option maxRecDepth 65536 in
set_option maxHeartbeats 40000000 in
theorem own_rm_law (l : Launch) (Z : State) (a0 : Array Value) (hw : ∀ d ∈ tables_1, d.before a0 Z = true) (ws : List Jvm.Cond) (va : Int32) (vb : Int32) (h0 : Heap) (n0 : Nat) (Z0 : n0 ≤ h0.size) :
    MetFree l x (head1 (Jvm.Cond.code x code maxLocals ret :: ws) room_1) (fun a U => a = #[(.int va), (.int vb)] ∧ Z.Warmed39 U.vm ∧ U.heap = h0) (fun _ _ _ _ _ => True) (fun _ U o U' => ∃ v L, o = .returned v ∧ own_Q_law Z va vb h0 n0 v U'.heap L ∧ FrameEnd U o U' L room_1.cells room_1.slots) := by
  refine MetFree.of_bodySF (plainFor_of_name own_pn1) hisR ?_
  intro p e s m args below meth c s₁ Bd hml0 hP hK
  obtain ⟨rfl, hZ, hh⟩ := hP
  have hx := Bd.exec
  have hby := Bd.bytes
  have hml : c.maxLocals = 8 := hml0
  have hown : s.vm.findClass "com/example/crisp_calls/crispcalls/function/IndexesFromStartPinLaw" = some m.cls := findClass_of_methodNamed Bd.named
  have hnm := (name_of_methodNamed Bd.named Bd.method).1
  have X0 : Stand p l e room_1 s m #[(.int va), (.int vb)] below meth c s₁ [] 0 0 := Stand.of_body Bd
  have e0 : s₁.heap = h0 := by rw [← hh, Bd.state]; rfl
  have N0 := Fr.nil n0
  show own_Fin p e below s (own_Q_law Z va vb h0 n0) room_1.cells room_1.slots (s₁.setTop (entryFrame m #[(.int va), (.int vb)] maxLocals))
  refine own_Fin.go (fun t k => castTop (own_ef_law m va vb) k) ?_
  refine own_Fin.go (fun t k => XS.iloadN X0.here hx rfl (hb hby at_0) rfl k) ?_
  show own_Fin _ _ _ _ _ _ _ (s₁.setTop (mkF m 1 #[.val (.int va), .val (.int vb), .unset, .unset, .unset, .unset, .unset, .unset] [(.int va)]))
  refine own_Fin.go (fun t k => XS.i2dS X0.here hx rfl (hb hby at_1) rfl rfl k) ?_
  show own_Fin _ _ _ _ _ _ _ (s₁.setTop (mkF m 2 #[.val (.int va), .val (.int vb), .unset, .unset, .unset, .unset, .unset, .unset] [(.double (Jvm.FP.i2d va))]))
  refine own_Fin.go (fun t k => X0.ldc2DoubleC hx hown (mvT hZ (hw _ (List.mem_of_getElem? (i := 0) rfl))) (g := (mkF m 2 #[.val (.int va), .val (.int vb), .unset, .unset, .unset, .unset, .unset, .unset] [(.double (Jvm.FP.i2d va))])) rfl (hb hby at_2) t k) ?_
  show own_Fin _ _ _ _ _ _ _ (s₁.setTop (mkF m 5 #[.val (.int va), .val (.int vb), .unset, .unset, .unset, .unset, .unset, .unset] [(.double (4616189618054758400 : UInt64)), (.double (Jvm.FP.i2d va))]))
  refine own_Fin.go (fun t k => XS.ddivS X0.here hx rfl (hb hby at_5) rfl (own_Qnn (own_ddiv va)) rfl k) ?_
  show own_Fin _ _ _ _ _ _ _ (s₁.setTop (mkF m 6 #[.val (.int va), .val (.int vb), .unset, .unset, .unset, .unset, .unset, .unset] [(.double (Jvm.FP.ddiv (Jvm.FP.i2d va) (4616189618054758400 : UInt64)))]))
  refine own_Fin.go (fun t k => XS.dstoreN X0.here hx rfl (hb hby at_6) rfl (l' := #[.val (.int va), .val (.int vb), .val (.double (Jvm.FP.ddiv (Jvm.FP.i2d va) (4616189618054758400 : UInt64))), .second, .unset, .unset, .unset, .unset]) rfl k) ?_
  show own_Fin _ _ _ _ _ _ _ (s₁.setTop (mkF m 7 #[.val (.int va), .val (.int vb), .val (.double (Jvm.FP.ddiv (Jvm.FP.i2d va) (4616189618054758400 : UInt64))), .second, .unset, .unset, .unset, .unset] []))
  refine own_Fin.go (fun t k => XS.dloadN X0.here hx rfl (hb hby at_7) rfl k) ?_
  show own_Fin _ _ _ _ _ _ _ (s₁.setTop (mkF m 8 #[.val (.int va), .val (.int vb), .val (.double (Jvm.FP.ddiv (Jvm.FP.i2d va) (4616189618054758400 : UInt64))), .second, .unset, .unset, .unset, .unset] [(.double (Jvm.FP.ddiv (Jvm.FP.i2d va) (4616189618054758400 : UInt64)))]))
  refine own_Fin.go (fun t k => XS.iloadN X0.here hx rfl (hb hby at_8) rfl k) ?_
  show own_Fin _ _ _ _ _ _ _ (s₁.setTop (mkF m 9 #[.val (.int va), .val (.int vb), .val (.double (Jvm.FP.ddiv (Jvm.FP.i2d va) (4616189618054758400 : UInt64))), .second, .unset, .unset, .unset, .unset] [(.int vb), (.double (Jvm.FP.ddiv (Jvm.FP.i2d va) (4616189618054758400 : UInt64)))]))
  obtain ⟨_, _, ⟨T1, L1, k1, n1⟩, -, X1, ⟨Lc1, hQ1, l1, y1, z1⟩, st1⟩ := Jvm.LawKit.callS X0 hx (y := (⟨"com/example/crisp_calls/crispcalls/function/Indexes", "fromStart", "(DI)D"⟩ : MethodName)) hown (mvT hZ (hw _ (List.mem_of_getElem? (i := 1) rfl))) (mvT hZ (hw _ (List.mem_of_getElem? (i := 2) rfl))) (mvT hZ (hw _ (List.mem_of_getElem? (i := 3) rfl))) (mvT hZ (hw _ (List.mem_of_getElem? (i := 4) rfl))) (by decide) (backOf (W := 0) (own_rm_fs l Z a0 hw [] (Jvm.FP.ddiv (Jvm.FP.i2d va) (4616189618054758400 : UInt64)) vb va.toInt h0 n0 Z0 (own_ddiv va) (own_b va)) hZ (hw _ (List.mem_of_getElem? (i := 4) rfl)) (hw _ (List.mem_of_getElem? (i := 3) rfl)) (by decide) (by decide)) (g := (mkF m 9 #[.val (.int va), .val (.int vb), .val (.double (Jvm.FP.ddiv (Jvm.FP.i2d va) (4616189618054758400 : UInt64))), .second, .unset, .unset, .unset, .unset] [(.int vb), (.double (Jvm.FP.ddiv (Jvm.FP.i2d va) (4616189618054758400 : UInt64)))])) rfl (by rw [hml]; rfl) (argsL := [(.double (Jvm.FP.ddiv (Jvm.FP.i2d va) (4616189618054758400 : UInt64))), (.int vb)]) (rest := []) (lenOf own_pd0 rfl) rfl (by show 2 * 0 + _ ≤ _; exact Nat.le_of_eq rfl) (hb hby at_9) (fun _ _ => ⟨rfl, e0, (by decide : 0 + 0 ≤ _), (by decide : 0 + 0 ≤ _)⟩)
  dsimp only [Pt.U, Pt.locs, Pt.cells, Pt.slots] at X1 l1 y1 z1 st1 hQ1
  subst l1 y1 z1
  obtain ⟨r1, rfl, N1q, e1, c1_1⟩ := hQ1
  refine own_Fin.go (fun t k => st1 t k) ?_
  have N1 := Fr.app N0 N1q
  show own_Fin _ _ _ _ _ _ _ (T1.setTop (mkF m 12 #[.val (.int va), .val (.int vb), .val (.double (Jvm.FP.ddiv (Jvm.FP.i2d va) (4616189618054758400 : UInt64))), .second, .unset, .unset, .unset, .unset] [(.double r1)]))
  refine own_Fin.go (fun t k => XS.dstore X1.here hx rfl (hb hby at_12) rfl (l' := #[.val (.int va), .val (.int vb), .val (.double (Jvm.FP.ddiv (Jvm.FP.i2d va) (4616189618054758400 : UInt64))), .second, .val (.double r1), .second, .unset, .unset]) rfl k) ?_
  show own_Fin _ _ _ _ _ _ _ (T1.setTop (mkF m 14 #[.val (.int va), .val (.int vb), .val (.double (Jvm.FP.ddiv (Jvm.FP.i2d va) (4616189618054758400 : UInt64))), .second, .val (.double r1), .second, .unset, .unset] []))
  refine own_Fin.go (fun t k => XS.iloadN X1.here hx rfl (hb hby at_14) rfl k) ?_
  show own_Fin _ _ _ _ _ _ _ (T1.setTop (mkF m 15 #[.val (.int va), .val (.int vb), .val (.double (Jvm.FP.ddiv (Jvm.FP.i2d va) (4616189618054758400 : UInt64))), .second, .val (.double r1), .second, .unset, .unset] [(.int va)]))
  by_cases hc15 : va < (0 : Int32)
  · refine own_Fin.go (fun t k => XS.ifNo X1.here hx rfl (hb hby at_15) rfl (Jvm.Free.XT.i0_ge_f hc15) k) ?_
    show own_Fin _ _ _ _ _ _ _ (T1.setTop (mkF m 18 #[.val (.int va), .val (.int vb), .val (.double (Jvm.FP.ddiv (Jvm.FP.i2d va) (4616189618054758400 : UInt64))), .second, .val (.double r1), .second, .unset, .unset] []))
    refine own_Fin.go (fun t k => XS.iloadN X1.here hx rfl (hb hby at_18) rfl k) ?_
    show own_Fin _ _ _ _ _ _ _ (T1.setTop (mkF m 19 #[.val (.int va), .val (.int vb), .val (.double (Jvm.FP.ddiv (Jvm.FP.i2d va) (4616189618054758400 : UInt64))), .second, .val (.double r1), .second, .unset, .unset] [(.int va)]))
    refine own_Fin.go (fun t k => XS.i2l X1.here hx rfl (hb hby at_19) rfl k) ?_
    show own_Fin _ _ _ _ _ _ _ (T1.setTop (mkF m 20 #[.val (.int va), .val (.int vb), .val (.double (Jvm.FP.ddiv (Jvm.FP.i2d va) (4616189618054758400 : UInt64))), .second, .val (.double r1), .second, .unset, .unset] [(.long (va.toInt64))]))
    refine own_Fin.go (fun t k => X1.ldc2Long hx hown (mvT hZ (hw _ (List.mem_of_getElem? (i := 5) rfl))) (g := (mkF m 20 #[.val (.int va), .val (.int vb), .val (.double (Jvm.FP.ddiv (Jvm.FP.i2d va) (4616189618054758400 : UInt64))), .second, .val (.double r1), .second, .unset, .unset] [(.long (va.toInt64))])) rfl (hb hby at_20) t k) ?_
    show own_Fin _ _ _ _ _ _ _ (T1.setTop (mkF m 23 #[.val (.int va), .val (.int vb), .val (.double (Jvm.FP.ddiv (Jvm.FP.i2d va) (4616189618054758400 : UInt64))), .second, .val (.double r1), .second, .unset, .unset] [(.long (4 : Int64)), (.long (va.toInt64))]))
    refine own_Fin.go (fun t k => XS.iloadN X1.here hx rfl (hb hby at_23) rfl k) ?_
    show own_Fin _ _ _ _ _ _ _ (T1.setTop (mkF m 24 #[.val (.int va), .val (.int vb), .val (.double (Jvm.FP.ddiv (Jvm.FP.i2d va) (4616189618054758400 : UInt64))), .second, .val (.double r1), .second, .unset, .unset] [(.int vb), (.long (4 : Int64)), (.long (va.toInt64))]))
    refine own_Fin.go (fun t k => XS.i2l X1.here hx rfl (hb hby at_24) rfl k) ?_
    show own_Fin _ _ _ _ _ _ _ (T1.setTop (mkF m 25 #[.val (.int va), .val (.int vb), .val (.double (Jvm.FP.ddiv (Jvm.FP.i2d va) (4616189618054758400 : UInt64))), .second, .val (.double r1), .second, .unset, .unset] [(.long (vb.toInt64)), (.long (4 : Int64)), (.long (va.toInt64))]))
    refine own_Fin.go (fun t k => XS.lmul X1.here hx rfl (hb hby at_25) rfl k) ?_
    show own_Fin _ _ _ _ _ _ _ (T1.setTop (mkF m 26 #[.val (.int va), .val (.int vb), .val (.double (Jvm.FP.ddiv (Jvm.FP.i2d va) (4616189618054758400 : UInt64))), .second, .val (.double r1), .second, .unset, .unset] [(.long ((4 : Int64) * (vb.toInt64))), (.long (va.toInt64))]))
    refine own_Fin.go (fun t k => XS.ladd X1.here hx rfl (hb hby at_26) rfl k) ?_
    show own_Fin _ _ _ _ _ _ _ (T1.setTop (mkF m 27 #[.val (.int va), .val (.int vb), .val (.double (Jvm.FP.ddiv (Jvm.FP.i2d va) (4616189618054758400 : UInt64))), .second, .val (.double r1), .second, .unset, .unset] [(.long ((va.toInt64) + ((4 : Int64) * (vb.toInt64))))]))
    refine own_Fin.go (fun t k => XS.goto X1.here hx rfl (pc0 := 27) (pc' := 32) rfl (hb hby at_27) (by decide) (by decide) k) ?_
    show own_Fin _ _ _ _ _ _ _ (T1.setTop (mkF m 32 #[.val (.int va), .val (.int vb), .val (.double (Jvm.FP.ddiv (Jvm.FP.i2d va) (4616189618054758400 : UInt64))), .second, .val (.double r1), .second, .unset, .unset] [(.long ((va.toInt64) + ((4 : Int64) * (vb.toInt64))))]))
    refine own_Fin.go (fun t k => XS.lstore X1.here hx rfl (hb hby at_32) rfl (l' := #[.val (.int va), .val (.int vb), .val (.double (Jvm.FP.ddiv (Jvm.FP.i2d va) (4616189618054758400 : UInt64))), .second, .val (.double r1), .second, .val (.long ((va.toInt64) + ((4 : Int64) * (vb.toInt64)))), .second]) rfl k) ?_
    show own_Fin _ _ _ _ _ _ _ (T1.setTop (mkF m 34 #[.val (.int va), .val (.int vb), .val (.double (Jvm.FP.ddiv (Jvm.FP.i2d va) (4616189618054758400 : UInt64))), .second, .val (.double r1), .second, .val (.long ((va.toInt64) + ((4 : Int64) * (vb.toInt64)))), .second] []))
    refine own_Fin.go (fun t k => XS.dload X1.here hx rfl (hb hby at_34) rfl k) ?_
    show own_Fin _ _ _ _ _ _ _ (T1.setTop (mkF m 36 #[.val (.int va), .val (.int vb), .val (.double (Jvm.FP.ddiv (Jvm.FP.i2d va) (4616189618054758400 : UInt64))), .second, .val (.double r1), .second, .val (.long ((va.toInt64) + ((4 : Int64) * (vb.toInt64)))), .second] [(.double r1)]))
    refine own_Fin.go (fun t k => X1.ldc2DoubleC hx hown (mvT hZ (hw _ (List.mem_of_getElem? (i := 0) rfl))) (g := (mkF m 36 #[.val (.int va), .val (.int vb), .val (.double (Jvm.FP.ddiv (Jvm.FP.i2d va) (4616189618054758400 : UInt64))), .second, .val (.double r1), .second, .val (.long ((va.toInt64) + ((4 : Int64) * (vb.toInt64)))), .second] [(.double r1)])) rfl (hb hby at_36) t k) ?_
    show own_Fin _ _ _ _ _ _ _ (T1.setTop (mkF m 39 #[.val (.int va), .val (.int vb), .val (.double (Jvm.FP.ddiv (Jvm.FP.i2d va) (4616189618054758400 : UInt64))), .second, .val (.double r1), .second, .val (.long ((va.toInt64) + ((4 : Int64) * (vb.toInt64)))), .second] [(.double (4616189618054758400 : UInt64)), (.double r1)]))
    refine own_Fin.go (fun t k => XS.dmulS X1.here hx rfl (hb hby at_39) rfl (own_Wnn (own_dmul c1_1 (own_kb va vb))) rfl k) ?_
    show own_Fin _ _ _ _ _ _ _ (T1.setTop (mkF m 40 #[.val (.int va), .val (.int vb), .val (.double (Jvm.FP.ddiv (Jvm.FP.i2d va) (4616189618054758400 : UInt64))), .second, .val (.double r1), .second, .val (.long ((va.toInt64) + ((4 : Int64) * (vb.toInt64)))), .second] [(.double (Jvm.FP.dmul r1 (4616189618054758400 : UInt64)))]))
    refine own_Fin.go (fun t k => XS.lload X1.here hx rfl (hb hby at_40) rfl k) ?_
    show own_Fin _ _ _ _ _ _ _ (T1.setTop (mkF m 42 #[.val (.int va), .val (.int vb), .val (.double (Jvm.FP.ddiv (Jvm.FP.i2d va) (4616189618054758400 : UInt64))), .second, .val (.double r1), .second, .val (.long ((va.toInt64) + ((4 : Int64) * (vb.toInt64)))), .second] [(.long ((va.toInt64) + ((4 : Int64) * (vb.toInt64)))), (.double (Jvm.FP.dmul r1 (4616189618054758400 : UInt64)))]))
    refine own_Fin.go (fun t k => XS.l2dS X1.here hx rfl (hb hby at_42) rfl rfl k) ?_
    show own_Fin _ _ _ _ _ _ _ (T1.setTop (mkF m 43 #[.val (.int va), .val (.int vb), .val (.double (Jvm.FP.ddiv (Jvm.FP.i2d va) (4616189618054758400 : UInt64))), .second, .val (.double r1), .second, .val (.long ((va.toInt64) + ((4 : Int64) * (vb.toInt64)))), .second] [(.double (Jvm.FP.l2d ((va.toInt64) + ((4 : Int64) * (vb.toInt64))))), (.double (Jvm.FP.dmul r1 (4616189618054758400 : UInt64)))]))
    refine own_Fin.go (fun t k => XS.dcmpS X1.here hx rfl (hb hby at_43) rfl rfl k) ?_
    show own_Fin _ _ _ _ _ _ _ (T1.setTop (mkF m 44 #[.val (.int va), .val (.int vb), .val (.double (Jvm.FP.ddiv (Jvm.FP.i2d va) (4616189618054758400 : UInt64))), .second, .val (.double r1), .second, .val (.long ((va.toInt64) + ((4 : Int64) * (vb.toInt64)))), .second] [(.int (cmpValue (Jvm.FP.dcmp (Jvm.FP.dmul r1 (4616189618054758400 : UInt64)) (Jvm.FP.l2d ((va.toInt64) + ((4 : Int64) * (vb.toInt64))))) .l))]))
    have hc44 : (cmpValue (Jvm.FP.dcmp (Jvm.FP.dmul r1 (4616189618054758400 : UInt64)) (Jvm.FP.l2d ((va.toInt64) + ((4 : Int64) * (vb.toInt64))))) .l) = (0 : Int32) := own_eq c1_1 (own_x1 hc15)
    refine own_Fin.go (fun t k => XS.ifNo X1.here hx rfl (hb hby at_44) rfl (Jvm.Free.XT.i0_ne_f hc44) k) ?_
    show own_Fin _ _ _ _ _ _ _ (T1.setTop (mkF m 47 #[.val (.int va), .val (.int vb), .val (.double (Jvm.FP.ddiv (Jvm.FP.i2d va) (4616189618054758400 : UInt64))), .second, .val (.double r1), .second, .val (.long ((va.toInt64) + ((4 : Int64) * (vb.toInt64)))), .second] []))
    refine own_Fin.go (fun t k => XS.iconst X1.here hx rfl (hb hby at_47) k) ?_
    show own_Fin _ _ _ _ _ _ _ (T1.setTop (mkF m 48 #[.val (.int va), .val (.int vb), .val (.double (Jvm.FP.ddiv (Jvm.FP.i2d va) (4616189618054758400 : UInt64))), .second, .val (.double r1), .second, .val (.long ((va.toInt64) + ((4 : Int64) * (vb.toInt64)))), .second] [(.int (1 : Int32))]))
    refine own_Fin.go (fun t k => XS.goto X1.here hx rfl (pc0 := 48) (pc' := 52) rfl (hb hby at_48) (by decide) (by decide) k) ?_
    show own_Fin _ _ _ _ _ _ _ (T1.setTop (mkF m 52 #[.val (.int va), .val (.int vb), .val (.double (Jvm.FP.ddiv (Jvm.FP.i2d va) (4616189618054758400 : UInt64))), .second, .val (.double r1), .second, .val (.long ((va.toInt64) + ((4 : Int64) * (vb.toInt64)))), .second] [(.int (1 : Int32))]))
    refine own_retN X1 hx (t := .boolean) (w := (1 : Int32)) Bd.returns (by simp) (hb hby at_52) Bd.notSynchronized rfl (by decide) (by decide) ?_
    rw [e1]
    exact ⟨rfl, N1⟩
  · refine own_Fin.go (fun t k => XS.ifYes X1.here hx rfl (pc0 := 15) (pc' := 30) rfl (hb hby at_15) rfl (Jvm.Free.XT.i0_ge_t hc15) (by decide) (by decide) k) ?_
    show own_Fin _ _ _ _ _ _ _ (T1.setTop (mkF m 30 #[.val (.int va), .val (.int vb), .val (.double (Jvm.FP.ddiv (Jvm.FP.i2d va) (4616189618054758400 : UInt64))), .second, .val (.double r1), .second, .unset, .unset] []))
    refine own_Fin.go (fun t k => XS.iloadN X1.here hx rfl (hb hby at_30) rfl k) ?_
    show own_Fin _ _ _ _ _ _ _ (T1.setTop (mkF m 31 #[.val (.int va), .val (.int vb), .val (.double (Jvm.FP.ddiv (Jvm.FP.i2d va) (4616189618054758400 : UInt64))), .second, .val (.double r1), .second, .unset, .unset] [(.int va)]))
    refine own_Fin.go (fun t k => XS.i2l X1.here hx rfl (hb hby at_31) rfl k) ?_
    show own_Fin _ _ _ _ _ _ _ (T1.setTop (mkF m 32 #[.val (.int va), .val (.int vb), .val (.double (Jvm.FP.ddiv (Jvm.FP.i2d va) (4616189618054758400 : UInt64))), .second, .val (.double r1), .second, .unset, .unset] [(.long (va.toInt64))]))
    refine own_Fin.go (fun t k => XS.lstore X1.here hx rfl (hb hby at_32) rfl (l' := #[.val (.int va), .val (.int vb), .val (.double (Jvm.FP.ddiv (Jvm.FP.i2d va) (4616189618054758400 : UInt64))), .second, .val (.double r1), .second, .val (.long (va.toInt64)), .second]) rfl k) ?_
    show own_Fin _ _ _ _ _ _ _ (T1.setTop (mkF m 34 #[.val (.int va), .val (.int vb), .val (.double (Jvm.FP.ddiv (Jvm.FP.i2d va) (4616189618054758400 : UInt64))), .second, .val (.double r1), .second, .val (.long (va.toInt64)), .second] []))
    refine own_Fin.go (fun t k => XS.dload X1.here hx rfl (hb hby at_34) rfl k) ?_
    show own_Fin _ _ _ _ _ _ _ (T1.setTop (mkF m 36 #[.val (.int va), .val (.int vb), .val (.double (Jvm.FP.ddiv (Jvm.FP.i2d va) (4616189618054758400 : UInt64))), .second, .val (.double r1), .second, .val (.long (va.toInt64)), .second] [(.double r1)]))
    refine own_Fin.go (fun t k => X1.ldc2DoubleC hx hown (mvT hZ (hw _ (List.mem_of_getElem? (i := 0) rfl))) (g := (mkF m 36 #[.val (.int va), .val (.int vb), .val (.double (Jvm.FP.ddiv (Jvm.FP.i2d va) (4616189618054758400 : UInt64))), .second, .val (.double r1), .second, .val (.long (va.toInt64)), .second] [(.double r1)])) rfl (hb hby at_36) t k) ?_
    show own_Fin _ _ _ _ _ _ _ (T1.setTop (mkF m 39 #[.val (.int va), .val (.int vb), .val (.double (Jvm.FP.ddiv (Jvm.FP.i2d va) (4616189618054758400 : UInt64))), .second, .val (.double r1), .second, .val (.long (va.toInt64)), .second] [(.double (4616189618054758400 : UInt64)), (.double r1)]))
    refine own_Fin.go (fun t k => XS.dmulS X1.here hx rfl (hb hby at_39) rfl (own_Wnn (own_dmul c1_1 (own_kb va vb))) rfl k) ?_
    show own_Fin _ _ _ _ _ _ _ (T1.setTop (mkF m 40 #[.val (.int va), .val (.int vb), .val (.double (Jvm.FP.ddiv (Jvm.FP.i2d va) (4616189618054758400 : UInt64))), .second, .val (.double r1), .second, .val (.long (va.toInt64)), .second] [(.double (Jvm.FP.dmul r1 (4616189618054758400 : UInt64)))]))
    refine own_Fin.go (fun t k => XS.lload X1.here hx rfl (hb hby at_40) rfl k) ?_
    show own_Fin _ _ _ _ _ _ _ (T1.setTop (mkF m 42 #[.val (.int va), .val (.int vb), .val (.double (Jvm.FP.ddiv (Jvm.FP.i2d va) (4616189618054758400 : UInt64))), .second, .val (.double r1), .second, .val (.long (va.toInt64)), .second] [(.long (va.toInt64)), (.double (Jvm.FP.dmul r1 (4616189618054758400 : UInt64)))]))
    refine own_Fin.go (fun t k => XS.l2dS X1.here hx rfl (hb hby at_42) rfl rfl k) ?_
    show own_Fin _ _ _ _ _ _ _ (T1.setTop (mkF m 43 #[.val (.int va), .val (.int vb), .val (.double (Jvm.FP.ddiv (Jvm.FP.i2d va) (4616189618054758400 : UInt64))), .second, .val (.double r1), .second, .val (.long (va.toInt64)), .second] [(.double (Jvm.FP.l2d (va.toInt64))), (.double (Jvm.FP.dmul r1 (4616189618054758400 : UInt64)))]))
    refine own_Fin.go (fun t k => XS.dcmpS X1.here hx rfl (hb hby at_43) rfl rfl k) ?_
    show own_Fin _ _ _ _ _ _ _ (T1.setTop (mkF m 44 #[.val (.int va), .val (.int vb), .val (.double (Jvm.FP.ddiv (Jvm.FP.i2d va) (4616189618054758400 : UInt64))), .second, .val (.double r1), .second, .val (.long (va.toInt64)), .second] [(.int (cmpValue (Jvm.FP.dcmp (Jvm.FP.dmul r1 (4616189618054758400 : UInt64)) (Jvm.FP.l2d (va.toInt64))) .l))]))
    have hc44 : (cmpValue (Jvm.FP.dcmp (Jvm.FP.dmul r1 (4616189618054758400 : UInt64)) (Jvm.FP.l2d (va.toInt64))) .l) = (0 : Int32) := own_eq c1_1 (own_x2 hc15)
    refine own_Fin.go (fun t k => XS.ifNo X1.here hx rfl (hb hby at_44) rfl (Jvm.Free.XT.i0_ne_f hc44) k) ?_
    show own_Fin _ _ _ _ _ _ _ (T1.setTop (mkF m 47 #[.val (.int va), .val (.int vb), .val (.double (Jvm.FP.ddiv (Jvm.FP.i2d va) (4616189618054758400 : UInt64))), .second, .val (.double r1), .second, .val (.long (va.toInt64)), .second] []))
    refine own_Fin.go (fun t k => XS.iconst X1.here hx rfl (hb hby at_47) k) ?_
    show own_Fin _ _ _ _ _ _ _ (T1.setTop (mkF m 48 #[.val (.int va), .val (.int vb), .val (.double (Jvm.FP.ddiv (Jvm.FP.i2d va) (4616189618054758400 : UInt64))), .second, .val (.double r1), .second, .val (.long (va.toInt64)), .second] [(.int (1 : Int32))]))
    refine own_Fin.go (fun t k => XS.goto X1.here hx rfl (pc0 := 48) (pc' := 52) rfl (hb hby at_48) (by decide) (by decide) k) ?_
    show own_Fin _ _ _ _ _ _ _ (T1.setTop (mkF m 52 #[.val (.int va), .val (.int vb), .val (.double (Jvm.FP.ddiv (Jvm.FP.i2d va) (4616189618054758400 : UInt64))), .second, .val (.double r1), .second, .val (.long (va.toInt64)), .second] [(.int (1 : Int32))]))
    refine own_retN X1 hx (t := .boolean) (w := (1 : Int32)) Bd.returns (by simp) (hb hby at_52) Bd.notSynchronized rfl (by decide) (by decide) ?_
    rw [e1]
    exact ⟨rfl, N1⟩
set_option maxRecDepth 65536 in
set_option maxHeartbeats 40000000 in
theorem comes_1 {Post : Tables → Env → Array Value → State → Outcome → State → Prop} (hpost : ∀ tb e args s v u, (limb_1_1.after args s (.returned v) u = true ∧ limb_1_2.after args s (.returned v) u = true ∧ True) → FrameEnd s (.returned v) u (Jvm.fieldLocs frame_1_writes args s ++ Jvm.arrayLocs frame_1_arrays args s ++ Jvm.staticLocs frame_1_statics s) 0 0 → Post tb e args s (.returned v) u) :
    ArmFor flags0 classFile x code maxLocals ret World_1 tables_1 room_1 Calls_1 rest_1 Pre_1 Post := by
  intro l hfl _ _ p e ha hc hk s m args below hf hA hF happ hP
  obtain ⟨hcalls, hrest, hpre⟩ := hP
  obtain ⟨-, -, -, hnamed, -, -, -, hat⟩ := (Spec.applies_iff hf).mp happ
  obtain ⟨hg, hn⟩ := and_e (Cond.before_iff.mp (show (Jvm.Cond.and given_1 narrow_1).before args s = true from hpre))
  obtain ⟨hg0, hr0⟩ := and_e hg
  obtain ⟨hg1, hr1⟩ := and_e hr0
  obtain ⟨w0, w1, rfl⟩ : ∃ w0 w1 : Value, args = #[w0, w1] := by
    have hs : args.size = 2 := by simpa [Cond.value, given_1] using hg0
    obtain ⟨L⟩ := args
    match L, hs with
    | [w0, w1], _ => exact ⟨w0, w1, rfl⟩
  have hw := fun d (hd : d ∈ tables_1) => atoms_spec (ws := Jvm.Cond.code x code maxLocals ret :: tables_1) hat d (List.mem_cons_of_mem _ hd)
  have hfit : Fit s := fun {y c} hc i hi => by
    obtain ⟨ha, rfl⟩ := Array.getElem?_eq_some_iff.mp hc
    have q := List.all_eq_true.mp ((Array.all_eq_true_iff_forall_mem.mp hF) _ (Array.getElem_mem ha)) i (List.mem_range.mpr hi)
    simpa [Array.getElem?_eq_getElem hi] using q
  obtain ⟨i0, ei0⟩ := is_v hg1
  obtain rfl : w0 = (.int i0) := Option.some.inj ei0
  obtain ⟨i1, ei1⟩ := is_v hr1
  obtain rfl : w1 = (.int i1) := Option.some.inj ei1
  obtain ⟨n, o, h1, h2, h3, _, L, rfl, ⟨rfl, N⟩, hq⟩ := own_rm_law l s _ hw tables_1 i0 i1  s.heap s.heap.size (Nat.le_refl _)  p e ha hc hk s m _ below hf ((Spec.applies_iff_loose hf).mp happ).1 ⟨rfl, State.Warmed39.refl s, rfl⟩ trivial
  refine ⟨n, _, h1, h2, h3, hpost _ _ _ _ _ _ ⟨Cond.after_iff.mpr rfl, Cond.after_iff.mpr (eq_i res_at (Term.int_eval (1)) rfl), trivial⟩ ⟨hq.1, hq.2.1, (hq.2.2.sift fun y hy => Or.inr (N y hy)).mono (by decide) (by decide)⟩⟩
theorem main_1_1 : Claimed_1_1 := comes_1 fun _ _ _ _ _ _ h hF => ⟨h.1, hF⟩
theorem main_1_2 : Claimed_1_2 := comes_1 fun _ _ _ _ _ _ h hF => ⟨h.2.1, hF⟩
end Jvm.Pilot.@@N@@
namespace Jvm.Pilot.@@N@@
open Jvm Jvm.ClassFile Sem Op Lib Jvm.Free Jvm.Stand Jvm.Pilot.@@N@@.Jvm.D
/-! MADE BY PROGRAM (witnessworld.py) out of the Statement's table words and the real class files: 9 classes; the members and pool entries that the words name. The judged class is class 1, her method 1. -/
namespace start1
open Jvm.ClassFile
def u (s : String) : CpInfo := .utf8 (stringToUtf16 s)
/-- a pool by its gaps: so many unusable entries, then the entry; so many at the end -/
def gap : Nat → List CpInfo → List CpInfo
  | 0, r => r
  | n + 1, r => .unusable :: gap n r
def poolList (es : List (Nat × CpInfo)) (last : Nat) : List CpInfo := es.foldr (fun e r => gap e.1 (e.2 :: r)) (gap last [])
def pool (es : List (Nat × CpInfo)) (last : Nat) : Array CpInfo := ⟨poolList es last⟩
def fileOf (pool : Array CpInfo) (this : Nat) (attrs : Array Attribute := #[]) (ms : Array MethodInfo := #[]) (fl : Nat := 33) (sup : Nat := 0) (ifs : Array Nat := #[]) (fds : Array FieldInfo := #[]) : ClassFile where
  minorVersion := 0
  majorVersion := 65
  constantPool := pool
  accessFlags := fl
  thisClass := this
  superClass := sup
  interfaces := ifs
  fields := fds
  methods := ms
  attributes := attrs
def plain (name : String) (sup : Option ClassId) : Class where
  name := name
  kind := .ordinary
  loader := none
  accessFlags := 33
  super := sup
  interfaces := #[]
  cf := none
  fields := #[]
  methods := #[]
  instanceTypes := #[]
  staticTypes := #[]
  resolved := #[]
  callSites := []
  init := .initialized
  statics := none
  mirror := none

def pool0 : Array CpInfo := pool [(5, u "<init>"), (0, u "()V"), (1, .class_ 10), (1, u "java/lang/Object")] 113

def k0m0 : Method := { name := "<init>", desc := "()V", sig := { parameters := [], returnType := none }, accessFlags := 1, code := none }
/-- java/lang/Object -/
def k0 : Class := { plain "java/lang/Object" none with
  accessFlags := 33
  interfaces := #[]
  cf := some (fileOf pool0 8 #[] #[{ accessFlags := 1, nameIndex := 5, descriptorIndex := 6, attributes := #[] }] 33 0 #[] #[])
  fields := #[]
  methods := #[k0m0]
  instanceTypes := #[]
  staticTypes := #[]
  resolved := Array.replicate 124 none
  statics := none }

def pool1 : Array CpInfo := pool [(2, .class_ 4), (1, u "java/lang/Object"), (0, u "<init>"), (0, u "()V"), (0, .double 4616189618054758400), (1, .methodref 10 11), (0, .class_ 12), (0, .nameAndType 13 14), (0, u "com/example/crisp_calls/crispcalls/function/Indexes"), (0, u "fromStart"), (0, u "(DI)D"), (0, .long 4), (1, .class_ 18), (0, u "com/example/crisp_calls/crispcalls/function/IndexesFromStartPinLaw"), (2, u "law"), (0, u "(II)Z")] 3

def k1m0 : Method := { name := "<init>", desc := "()V", sig := { parameters := [], returnType := none }, accessFlags := 2, code := none }
def k1c1 : Code := { maxStack := 6, maxLocals := 8, code := code, exceptionTable := #[], attributes := #[] }
def k1m1 : Method := { name := "law", desc := "(II)Z", sig := { parameters := [.int, .int], returnType := some .boolean }, accessFlags := 9, code := some k1c1 }
/-- com/example/crisp_calls/crispcalls/function/IndexesFromStartPinLaw -/
def k1 : Class := { plain "com/example/crisp_calls/crispcalls/function/IndexesFromStartPinLaw" (some 0) with
  accessFlags := 49
  interfaces := #[]
  cf := some (fileOf pool1 17 #[] #[{ accessFlags := 2, nameIndex := 5, descriptorIndex := 6, attributes := #[] }, { accessFlags := 9, nameIndex := 21, descriptorIndex := 22, attributes := #[] }] 49 2 #[] #[])
  fields := #[]
  methods := #[k1m0, k1m1]
  instanceTypes := #[]
  staticTypes := #[]
  resolved := Array.replicate 26 none
  statics := none }

def pool2 : Array CpInfo := pool [(2, .class_ 4), (1, u "java/lang/Object"), (0, u "<init>"), (0, u "()V"), (1, .class_ 10), (1, u "com/example/crisp_calls/crispcalls/function/Indexes"), (0, u "fromStart"), (0, u "(DI)D"), (32, .class_ 46), (0, u "com/example/crisp_calls/crispcalls/function/Indexes$Stride")] 15

def k2m0 : Method := { name := "<init>", desc := "()V", sig := { parameters := [], returnType := none }, accessFlags := 2, code := none }
def k2c1 : Code := { maxStack := 4, maxLocals := 3, code := prog_5_method_2_code, exceptionTable := #[], attributes := #[] }
def k2m1 : Method := { name := "fromStart", desc := "(DI)D", sig := { parameters := [.double, .int], returnType := some .double }, accessFlags := 9, code := some k2c1 }
/-- com/example/crisp_calls/crispcalls/function/Indexes -/
def k2 : Class := { plain "com/example/crisp_calls/crispcalls/function/Indexes" (some 0) with
  accessFlags := 49
  interfaces := #[]
  cf := some (fileOf pool2 8 #[.nestMembers #[45]] #[{ accessFlags := 2, nameIndex := 5, descriptorIndex := 6, attributes := #[] }, { accessFlags := 9, nameIndex := 11, descriptorIndex := 12, attributes := #[] }] 49 2 #[] #[])
  fields := #[]
  methods := #[k2m0, k2m1]
  instanceTypes := #[]
  staticTypes := #[]
  resolved := Array.replicate 62 none
  statics := none }

def pool3 : Array CpInfo := pool [(1, u "java/lang/Cloneable"), (0, .class_ 1), (0, u "java/lang/Object"), (0, .class_ 3)] 3

/-- java/lang/Cloneable -/
def k3 : Class := { plain "java/lang/Cloneable" (some 0) with
  accessFlags := 1537
  interfaces := #[]
  cf := some (fileOf pool3 2 #[] #[] 1537 4 #[] #[])
  fields := #[]
  methods := #[]
  instanceTypes := #[]
  staticTypes := #[]
  resolved := Array.replicate 8 none
  statics := none }

def pool4 : Array CpInfo := pool [(1, u "java/io/Serializable"), (0, .class_ 1), (0, u "java/lang/Object"), (0, .class_ 3)] 3

/-- java/io/Serializable -/
def k4 : Class := { plain "java/io/Serializable" (some 0) with
  accessFlags := 1537
  interfaces := #[]
  cf := some (fileOf pool4 2 #[] #[] 1537 4 #[] #[])
  fields := #[]
  methods := #[]
  instanceTypes := #[]
  staticTypes := #[]
  resolved := Array.replicate 8 none
  statics := none }

/-- the primitive byte -/
def k5 : Class := { plain "byte" none with kind := .primitive 'B', accessFlags := 0x411 }
/-- [B -/
def k6 : Class := { plain "[B" (some 0) with kind := .array 5 .byte, interfaces := #[3, 4], accessFlags := 1041 }

/-- the primitive int -/
def k7 : Class := { plain "int" none with kind := .primitive 'I', accessFlags := 0x411 }
/-- [I -/
def k8 : Class := { plain "[I" (some 0) with kind := .array 7 .int, interfaces := #[3, 4], accessFlags := 1041 }

def heap : Heap := #[]
def classes : Array Class := #[k0, k1, k2, k3, k4, k5, k6, k7, k8]
def interned : List (Array UInt16 × Addr) := []
def slotsUsed : Nat := 0
def theMethod : MethodId := ⟨1, 1⟩
def args0 : Array Value := #[.int 5, .int 3]
def aboutOver (below : List Frame) : State where
  vm := { classes := classes, interned := interned.toArray }
  heap := heap
  slotsUsed := slotsUsed
  threads := #[{ frames := .invoking theMethod args0 :: below }]
def below0 : List Frame := [.native { method := ⟨0, 0⟩, args := #[] }]
def about1 : State := aboutOver below0
def p0 : Program := .bare "" "" ""
def e0 : Env := launch0.env 0 0 0
theorem w_frames : about1.frames = Frame.invoking theMethod args0 :: below0 := rfl
set_option maxRecDepth 65536 in
theorem w_args : argsFit about1.vm theMethod args0 = true := by decide +kernel
set_option maxRecDepth 65536 in
theorem w_heap : heapFits about1 = true := by decide +kernel
set_option maxRecDepth 65536 in
theorem w_runnable : about1.curStatus? = some .runnable := by decide +kernel
set_option maxRecDepth 65536 in
theorem w_alone : about1.alone = true := by decide +kernel
set_option maxRecDepth 65536 in
theorem w_named : about1.methodNamed? x = some theMethod := by decide +kernel
set_option maxRecDepth 65536 in
theorem w_hears : about1.hears theMethod below0 = true := by decide +kernel
set_option maxRecDepth 65536 in
theorem w_ripe : about1.ripe theMethod args0 below0 = true := by decide +kernel
theorem w_running : about1.status = .running := rfl
set_option maxRecDepth 65536 in
theorem w_room : about1.hasRoom e0.platform room_1 = true :=
  launch0.hasRoom_least _ room_1 (by decide +kernel) (by decide +kernel) (by decide +kernel) (by decide +kernel) (by decide +kernel) (by decide +kernel)
theorem allAtoms_all (ts : List Jvm.Cond) (a : Array Jvm.Value) (st : Jvm.State) : (allAtoms ts).before a st = ts.all (fun c => c.before a st) := by
  induction ts with
  | nil => rfl
  | cons c t ih =>
    show (Jvm.Cond.and c (allAtoms t)).before a st = _
    rw [Jvm.Cond.before_and, ih, List.all_cons]
def words1 : List Jvm.Cond := Jvm.Cond.code x code maxLocals ret :: tables_1
/-- a 'code' word, met by the world's own term for the bytes: nothing is compared byte by byte -/
theorem code_word {y : MethodName} {bytes : ByteArray} {mx : Nat} {rt : Option FieldType} {a : Array Value} {s : State} {m : MethodId} {meth : Method} {c : Code} (h1 : s.methodNamed? y = some m) (h2 : s.vm.method? m = some meth) (h3 : meth.code = some c) (h4 : c.code = bytes)
    (h5 : (c.maxLocals == mx && c.exceptionTable.isEmpty && decide (c.maxStack ≤ mostOperands) && decide (meth.sig.returnType = rt) && !meth.locks && decide (parseMethodDescriptor y.desc = some meth.sig)) = true) : (Jvm.Cond.code y bytes mx rt).before a s = true := by
  simp only [Bool.and_eq_true, beq_iff_eq, Bool.not_eq_true', decide_eq_true_eq] at h5
  obtain ⟨⟨⟨⟨⟨g1, g2⟩, g3⟩, g4⟩, g5⟩, g6⟩ := h5
  simp [Cond.before, Cond.holds, Cond.value, h1, h2, h3, h4, g1, g2, g3, g4, g5, g6]
def isCode : Jvm.Cond → Bool
  | .code _ _ _ _ => true
  | _ => false
theorem all_split {L : List Jvm.Cond} {P : Jvm.Cond → Bool} (h1 : L.all (fun c => isCode c || P c) = true) (h2 : ∀ c ∈ L.filter isCode, P c = true) : L.all P = true := by
  refine List.all_eq_true.mpr fun c hc => ?_
  have h := List.all_eq_true.mp h1 c hc
  rcases Bool.eq_false_or_eq_true (isCode c) with hi | hi
  · exact h2 c (List.mem_filter.mpr ⟨hc, hi⟩)
  · simpa [hi] using h
set_option maxRecDepth 65536 in
theorem w_c0 : (Jvm.Cond.code x code maxLocals ret).before args0 about1 = true := code_word (m := ⟨1, 1⟩) (meth := k1m1) (c := k1c1) (by decide +kernel) rfl rfl rfl (by decide +kernel)
set_option maxRecDepth 65536 in
theorem w_c1 : (Jvm.Cond.code ({ cls := "com/example/crisp_calls/crispcalls/function/Indexes", name := "fromStart", desc := "(DI)D" } : Jvm.MethodName) prog_5_method_2_code (3 : Nat) (Option.some Jvm.ClassFile.FieldType.double)).before args0 about1 = true := code_word (m := ⟨2, 1⟩) (meth := k2m1) (c := k2c1) (by decide +kernel) rfl rfl rfl (by decide +kernel)
def codes1 : List Jvm.Cond := [Jvm.Cond.code x code maxLocals ret, Jvm.Cond.code ({ cls := "com/example/crisp_calls/crispcalls/function/Indexes", name := "fromStart", desc := "(DI)D" } : Jvm.MethodName) prog_5_method_2_code (3 : Nat) (Option.some Jvm.ClassFile.FieldType.double)]
set_option maxRecDepth 65536 in
theorem codes_eq : words1.filter isCode = codes1 := rfl
theorem w_codes : ∀ c ∈ words1.filter isCode, c.before args0 about1 = true := by
  rw [codes_eq]
  intro c hc
  simp only [codes1, List.mem_cons, List.not_mem_nil, or_false] at hc
  rcases hc with rfl | rfl
  · exact w_c0
  · exact w_c1
set_option maxRecDepth 65536 in
theorem w_t1 : words1.all (fun c => isCode c || c.before args0 about1) = true := by decide +kernel
theorem w_tables : (allAtoms (Jvm.Cond.code x code maxLocals ret :: tables_1)).before args0 about1 = true := by
  rw [allAtoms_all]
  show words1.all (fun c => c.before args0 about1) = true
  refine all_split ?_ w_codes
  rw [w_t1]
set_option maxRecDepth 65536 in
theorem w_case : (Jvm.Cond.and given_1 narrow_1).before args0 about1 = true := by decide +kernel
theorem w_applies : (headSpec (Jvm.Cond.code x code maxLocals ret :: tables_1) room_1).applies x e0.platform about1 = true :=
  (Spec.applies_iff w_frames).mpr ⟨w_running, w_runnable, w_alone, w_named, w_hears, w_ripe, w_room, w_tables⟩
theorem atStart : AtStart classFile x code maxLocals ret World_1 tables_1 room_1 Calls_1 rest_1 Pre_1 launch0 p0 e0 about1 theMethod args0 below0 :=
  ⟨lists_1, trivial, launch0.admits_env _ _ _, launch0.least_env, fairChoices_fair.cas, fairChoices_fair.clock, w_frames, w_args, w_heap, w_applies, trivial, trivial, w_case⟩
end start1
theorem witness_1 : WitnessClaimed_1 := ⟨start1.p0, start1.e0, start1.about1, start1.theMethod, start1.args0, start1.below0, start1.atStart⟩
end Jvm.Pilot.@@N@@
