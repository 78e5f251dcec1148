import JvmDerived
import JvmDerived.Pilot.@@N@@Statement
import JvmDerived.Pilot.@@N@@Code
set_option linter.unusedVariables false
set_option linter.unusedSimpArgs false
namespace Jvm.Pilot.@@N@@
open Jvm Jvm.ClassFile Sem Op Lib Jvm.Free Jvm.Stand Jvm.LawKit Jvm.RoadKit Bundle Jvm.Pilot.@@N@@.Jvm.D
/-- the run goes on from here to an end at which K holds -/
def own_Go (p : Program) (e : Env) (below : List Frame) (T : State) (g : JFrame) (K : State → Outcome → Prop) : Prop := ∃ s₂ o, Steps p.tables e below (T.setTop g) s₂ ∧ K s₂ o
section OwnGo
variable {p : Program} {l : Launch} {e : Env} {R : Room} {s : State} {m : MethodId} {args : Array Value} {below : List Frame} {meth : Method} {c : Code} {T T' s₂ : State} {o : Outcome} {locs : List Loc} {cells slots : Nat} {g g' : JFrame} {K : State → Outcome → Prop}
theorem own_enter (q : g = g') (k : own_Go p e below T g' K) : ∃ s₂ o, Steps p.tables e below (T.setTop g) s₂ ∧ K s₂ o := by subst q; exact k
theorem own_st (h : ∀ t, Steps p.tables e below (T'.setTop g') t → Steps p.tables e below (T.setTop g) t) (k : own_Go p e below T' g' K) : own_Go p e below T g K := by
  obtain ⟨s2, o, h1, h2⟩ := k
  exact ⟨s2, o, h _ h1, h2⟩
theorem own_tr (h : Steps p.tables e below (T.setTop g) (T'.setTop g')) (k : own_Go p e below T' g' K) : own_Go p e below T g K := own_st (fun _ q => h.trans q) k
theorem own_fin (h : Steps p.tables e below (T.setTop g) s₂) (k : K s₂ o) : own_Go p e below T g K := ⟨s₂, o, h, k⟩
theorem own_retI (X : Stand p l e R s m args below meth c T locs cells slots) (hx : p.tables.exec = Jvm.exec) {pc : Nat} {Ls : Array Slot} {z : Int32} {rest : List Value} (hret : meth.sig.returnType = some .int) (hd : decode c.code pc = .ok (.ireturn, 1)) {fs : List Frame}
    (hl : ∀ (f : JFrame) (acts : List Action), f.method = m → f.locked = none → f.entered = [] → (doReturn e (T.setTop f) acts (some (.int z))).1 = T.setFrames fs) : Steps p.tables e below (T.setTop (mkF m pc Ls (.int z :: rest))) (T.setFrames fs) := by
  have hm' : T.vm.method? m = some meth := X.method'
  have hn : narrow .int (.int z) = .int z := rfl
  show Steps p.tables e below (T.setTop { method := m, pc := pc, locals := Ls, stack := _ :: rest, locked := none }) _
  jvm_step X.here [X.here.top, hx, hd, hm', hret, hn]
  first | (intro acts; rw [hl _ acts rfl rfl rfl]) | rw [hl _ _ rfl rfl rfl]
  exact Steps.refl _
theorem own_retD (X : Stand p l e R s m args below meth c T locs cells slots) (hx : p.tables.exec = Jvm.exec) {pc : Nat} {Ls : Array Slot} {z : UInt64} {rest : List Value} (hret : meth.sig.returnType = some .double) (hd : decode c.code pc = .ok (.dreturn, 1)) {fs : List Frame}
    (hl : ∀ (f : JFrame) (acts : List Action), f.method = m → f.locked = none → f.entered = [] → (doReturn e (T.setTop f) acts (some (.double z))).1 = T.setFrames fs) : Steps p.tables e below (T.setTop (mkF m pc Ls (.double z :: rest))) (T.setFrames fs) := by
  have hm' : T.vm.method? m = some meth := X.method'
  have hn : narrow .double (.double z) = .double z := rfl
  show Steps p.tables e below (T.setTop { method := m, pc := pc, locals := Ls, stack := _ :: rest, locked := none }) _
  jvm_step X.here [X.here.top, hx, hd, hm', hret, hn]
  first | (intro acts; rw [hl _ acts rfl rfl rfl]) | rw [hl _ _ rfl rfl rfl]
  exact Steps.refl _
theorem own_retL (X : Stand p l e R s m args below meth c T locs cells slots) (hx : p.tables.exec = Jvm.exec) {pc : Nat} {Ls : Array Slot} {z : Int64} {rest : List Value} (hret : meth.sig.returnType = some .long) (hd : decode c.code pc = .ok (.lreturn, 1)) {fs : List Frame}
    (hl : ∀ (f : JFrame) (acts : List Action), f.method = m → f.locked = none → f.entered = [] → (doReturn e (T.setTop f) acts (some (.long z))).1 = T.setFrames fs) : Steps p.tables e below (T.setTop (mkF m pc Ls (.long z :: rest))) (T.setFrames fs) := by
  have hm' : T.vm.method? m = some meth := X.method'
  have hn : narrow .long (.long z) = .long z := rfl
  show Steps p.tables e below (T.setTop { method := m, pc := pc, locals := Ls, stack := _ :: rest, locked := none }) _
  jvm_step X.here [X.here.top, hx, hd, hm', hret, hn]
  first | (intro acts; rw [hl _ acts rfl rfl rfl]) | rw [hl _ _ rfl rfl rfl]
  exact Steps.refl _
theorem own_retR (X : Stand p l e R s m args below meth c T locs cells slots) (hx : p.tables.exec = Jvm.exec) {pc : Nat} {Ls : Array Slot} {z : Value} {t : FieldType} {rest : List Value} (hz : z.isRef = true) (hret : meth.sig.returnType = some t) (ht : t.isReference = true) (hd : decode c.code pc = .ok (.areturn, 1)) {fs : List Frame}
    (hl : ∀ (f : JFrame) (acts : List Action), f.method = m → f.locked = none → f.entered = [] → (doReturn e (T.setTop f) acts (some z)).1 = T.setFrames fs) : Steps p.tables e below (T.setTop (mkF m pc Ls (z :: rest))) (T.setFrames fs) := by
  have hm' : T.vm.method? m = some meth := X.method'
  show Steps p.tables e below (T.setTop { method := m, pc := pc, locals := Ls, stack := _ :: rest, locked := none }) _
  jvm_step X.here [X.here.top, hx, hd, hm', hret, hz, ht]
  first | (intro acts; rw [hl _ acts rfl rfl rfl]) | rw [hl _ _ rfl rfl rfl]
  exact Steps.refl _
end OwnGo
section OwnFloats
open Jvm.FP.Core
theorem own_qmin64 : b64.qmin = -1074 := by decide +kernel
theorem own_zfin {s : Bool} {C : Nat} {q : Int} : zmag b64 (.fin s C q) = C * 2 ^ (q - b64.qmin).toNat := rfl
/-- a quotient is at most V, if the dividend is at most V times the divisor (all in units) -/
theorem own_div_units {C D zV : Nat} {q r e0 : Int} (hq : b64.qmin ≤ q) (hr : b64.qmin ≤ r) (h0 : e0 ≤ b64.qmin) (h1 : e0 ≤ q - r) :
    C * 2 ^ (q - r - e0).toNat * 2 ^ (r - b64.qmin).toNat = C * 2 ^ (q - b64.qmin).toNat * 2 ^ (-b64.qmin).toNat * 2 ^ (b64.qmin - e0).toNat := by
  have hm := own_qmin64
  rw [Nat.mul_assoc, ← Nat.pow_add, Nat.mul_assoc, Nat.mul_assoc, ← Nat.pow_add, ← Nat.pow_add]
  congr 2
  omega
theorem own_div_le {a b V : UInt64} {s t : Bool} {C D : Nat} {q r : Int} (ha : val64 a = .fin s C q) (hb : val64 b = .fin t D r) (hD : D ≠ 0) (hV : val64 V ≠ .nan)
    (h : zmag b64 (val64 a) * one64 ≤ zmag b64 (val64 V) * zmag b64 (val64 b)) : zmag b64 (val64 (ddiv a b)) ≤ zmag b64 (val64 V) := by
  have fa := val64_fits a
  have fb := val64_fits b
  rw [ha] at fa
  rw [hb] at fb
  rw [val64_ddiv, ha, hb]
  show zmag b64 (if D = 0 then _ else roundRatio b64 (s != t) C D (q - r)) ≤ _
  rw [if_neg hD]
  have hm := own_qmin64
  obtain ⟨e0, he⟩ : ∃ e0, e0 = min b64.qmin (q - r) := ⟨_, rfl⟩
  have h0 : e0 ≤ b64.qmin := by omega
  have h1 : e0 ≤ q - r := by omega
  refine zmag_roundRatio_le good_b64 (Nat.pos_of_ne_zero hD) (val64_fits V) hV h0 h1 ?_
  rw [ha, hb, own_zfin, own_zfin, ← pow_qmin64] at h
  have e := own_div_units (C := C) (D := D) (zV := 0) fa.2.1 fb.2.1 h0 h1
  unfold inUnits
  refine Nat.le_of_mul_le_mul_right (c := 2 ^ (r - b64.qmin).toNat) ?_ (Nat.two_pow_pos _)
  rw [e]
  have h2 := Nat.mul_le_mul_right (2 ^ (b64.qmin - e0).toNat) h
  refine Nat.le_trans h2 (Nat.le_of_eq ?_)
  generalize zmag b64 (val64 V) = zV
  generalize 2 ^ (r - b64.qmin).toNat = X
  generalize 2 ^ (b64.qmin - e0).toNat = Y
  ac_rfl
theorem own_div_ge {a b V : UInt64} {s t : Bool} {C D : Nat} {q r : Int} (ha : val64 a = .fin s C q) (hb : val64 b = .fin t D r) (hD : D ≠ 0)
    (h : zmag b64 (val64 V) * zmag b64 (val64 b) ≤ zmag b64 (val64 a) * one64) : zmag b64 (val64 V) ≤ zmag b64 (val64 (ddiv a b)) := by
  have fa := val64_fits a
  have fb := val64_fits b
  rw [ha] at fa
  rw [hb] at fb
  rw [val64_ddiv, ha, hb]
  show _ ≤ zmag b64 (if D = 0 then _ else roundRatio b64 (s != t) C D (q - r))
  rw [if_neg hD]
  have hm := own_qmin64
  obtain ⟨e0, he⟩ : ∃ e0, e0 = min b64.qmin (q - r) := ⟨_, rfl⟩
  have h0 : e0 ≤ b64.qmin := by omega
  have h1 : e0 ≤ q - r := by omega
  refine zmag_roundRatio_ge good_b64 (Nat.pos_of_ne_zero hD) (val64_fits V) h0 h1 ?_
  rw [ha, hb, own_zfin, own_zfin, ← pow_qmin64] at h
  have e := own_div_units (C := C) (D := D) (zV := 0) fa.2.1 fb.2.1 h0 h1
  unfold inUnits
  refine Nat.le_of_mul_le_mul_right (c := 2 ^ (r - b64.qmin).toNat) ?_ (Nat.two_pow_pos _)
  rw [e]
  have h2 := Nat.mul_le_mul_right (2 ^ (b64.qmin - e0).toNat) h
  refine Nat.le_trans (Nat.le_of_eq ?_) h2
  generalize zmag b64 (val64 V) = zV
  generalize 2 ^ (r - b64.qmin).toNat = X
  generalize 2 ^ (b64.qmin - e0).toNat = Y
  ac_rfl
/-- rounding whole numbers keeps their order -/
theorem own_round_mono {A B c d : Nat} {q r : Int} (h : A ≤ B) (hA : roundRatio b64 false A 1 0 = .fin false c q) (hB : roundRatio b64 false B 1 0 = .fin false d r) :
    zmag b64 (roundRatio b64 false A 1 0) ≤ zmag b64 (roundRatio b64 false B 1 0) := by
  have fA := roundRatio_fits good_b64 false A (B := 1) (by decide) 0
  have fB := roundRatio_fits good_b64 false B (B := 1) (by decide) 0
  have hm := own_qmin64
  rw [hA] at fA
  rw [hB] at fB
  have d1 := roundRatio_nearest good_b64 (by decide) hA fB.1 fB.2.1 (e0 := b64.qmin) (Int.le_refl _) (by omega)
  have d2 := roundRatio_nearest good_b64 (by decide) hB fA.1 fA.2.1 (e0 := b64.qmin) (Int.le_refl _) (by omega)
  rw [hA, hB]
  show inUnits c q b64.qmin ≤ inUnits d r b64.qmin
  unfold distance at d1 d2
  have hx : inUnits A 0 b64.qmin ≤ inUnits B 0 b64.qmin := Nat.mul_le_mul_right _ h
  have hxe : inUnits A 0 b64.qmin = inUnits B 0 b64.qmin → A = B := fun e => Nat.eq_of_mul_eq_mul_right (Nat.two_pow_pos _) e
  refine Nat.le_of_not_lt fun hlt => ?_
  have hAB : A = B := hxe (by
    generalize inUnits A 0 b64.qmin = x at *
    generalize inUnits B 0 b64.qmin = y at *
    generalize inUnits c q b64.qmin = u at *
    generalize inUnits d r b64.qmin = v at *
    omega)
  subst hAB
  have := hA.symm.trans hB
  cases this
  exact absurd hlt (Nat.lt_irrefl _)
theorem own_val_l2d {a : Int64} (h : 0 ≤ a.toInt) : ∃ c q, val64 (l2d a) = .fin false c q ∧ val64 (l2d a) = roundRatio b64 false a.toInt.natAbs 1 0 := by
  obtain ⟨c, q, e⟩ := l2d_shape a
  have hs : decide (a.toInt < 0) = false := by simp; omega
  rw [hs] at e
  refine ⟨c, q, e, ?_⟩
  rw [val64_l2d]
  show roundRatio b64 (decide (a.toInt < 0)) a.toInt.natAbs 1 0 = _
  rw [hs]
theorem own_l2d_mono {a b : Int64} (h0 : 0 ≤ a.toInt) (h : a.toInt ≤ b.toInt) : zmag b64 (val64 (l2d a)) ≤ zmag b64 (val64 (l2d b)) := by
  obtain ⟨c, q, e1, e2⟩ := own_val_l2d h0
  obtain ⟨d, r, e3, e4⟩ := own_val_l2d (a := b) (by omega)
  rw [e2, e4]
  exact own_round_mono (by omega) (e2.symm.trans e1) (e4.symm.trans e3)
theorem own_sgn_div {a b : UInt64} {s t : Bool} {C D : Nat} {q r : Int} (ha : val64 a = .fin s C q) (hb : val64 b = .fin t D r) (hD : D ≠ 0) : sgn (val64 (ddiv a b)) = (s != t) := by
  rw [val64_ddiv, ha, hb]
  show sgn (if D = 0 then _ else roundRatio b64 (s != t) C D (q - r)) = _
  rw [if_neg hD, sgn_roundRatio]
theorem own_div_nn {a b : UInt64} {s t : Bool} {C D : Nat} {q r : Int} (ha : val64 a = .fin s C q) (hb : val64 b = .fin t D r) (hD : D ≠ 0) : val64 (ddiv a b) ≠ .nan := by
  rw [val64_ddiv, ha, hb]
  show (if D = 0 then _ else roundRatio b64 (s != t) C D (q - r)) ≠ _
  rw [if_neg hD]
  exact roundRatio_ne_nan _ _ _ _ _
theorem own_one_nn : val64 dconst1 ≠ .nan := by decide +kernel
theorem own_one_zmag : zmag b64 (val64 dconst1) = one64 := by decide +kernel
theorem own_zero_nn : val64 dconst0 ≠ .nan := by decide +kernel
theorem own_zero_zmag : zmag b64 (val64 dconst0) = 0 := by decide +kernel
end OwnFloats
section OwnP
open Jvm.FP.Core
/-- what pos gives for n = (a & 0x0fffffff) + 1 -/
def own_pos (a : Int32) : UInt64 := FP.ddiv (FP.i2d ((a &&& (268435455 : Int32)) + (1 : Int32))) (4616189618054758400 : UInt64)
theorem own_n (a : Int32) : 0 < ((a &&& (268435455 : Int32)) + (1 : Int32)).toInt := by
  have h := c_and a 268435455 (by decide)
  have e : (268435455 : Int32).toInt = 268435455 := rfl
  have e1 : (1 : Int32).toInt = 1 := rfl
  have h2 := c_iadd (a &&& (268435455 : Int32)) 1
  have r := rng32 ((a &&& (268435455 : Int32)) + (1 : Int32))
  rw [e] at h
  rw [e1] at h2
  omega
theorem own_four : val64 (4616189618054758400 : UInt64) = .fin false (2 ^ 52) (-50) := by decide +kernel
theorem own_fin_pos (a : Int32) : ∃ A q, val64 (i2d ((a &&& (268435455 : Int32)) + (1 : Int32))) = .fin false A q ∧ 0 < A := by
  have hn := own_n a
  rw [i2d_l2d]
  have e : ((a &&& (268435455 : Int32)) + (1 : Int32)).toInt64.toInt = ((a &&& (268435455 : Int32)) + (1 : Int32)).toInt := Int32.toInt_toInt64 _
  obtain ⟨A, q, e2, -⟩ := own_val_l2d (a := ((a &&& (268435455 : Int32)) + (1 : Int32)).toInt64) (by omega)
  refine ⟨A, q, e2, Nat.pos_of_ne_zero fun h => ?_⟩
  subst h
  have hz := l2d_ne_zero (v := ((a &&& (268435455 : Int32)) + (1 : Int32)).toInt64) (fun q => by rw [q] at e; have : (0 : Int64).toInt = 0 := rfl; omega)
  have : zval b64 (val64 (l2d ((a &&& (268435455 : Int32)) + (1 : Int32)).toInt64)) = 0 := by rw [e2]; simp [zval, zmag, FP.Core.sgn, signed, inUnits]
  exact hz ((zval_eq_zero (by rw [e2]; exact Datum.noConfusion)).mp this)
theorem own_big (a : Int32) : 4 ≤ zmag b64 (val64 (i2d ((a &&& (268435455 : Int32)) + (1 : Int32)))) := by
  have hn := own_n a
  rw [i2d_l2d]
  have e : ((a &&& (268435455 : Int32)) + (1 : Int32)).toInt64.toInt = ((a &&& (268435455 : Int32)) + (1 : Int32)).toInt := Int32.toInt_toInt64 _
  have h := l2d_zval_ge (n := ((a &&& (268435455 : Int32)) + (1 : Int32)).toInt64) (V := dconst1) own_one_nn (by
    rw [e, show zval b64 (val64 dconst1) = (one64 : Int) from by decide +kernel]
    have : (0 : Int) ≤ (one64 : Int) := Int.natCast_nonneg _
    exact Int.le_trans (Int.le_of_eq (Int.one_mul _).symm) (Int.mul_le_mul_of_nonneg_right (by omega) this))
  obtain ⟨A, q, e2, -⟩ := own_val_l2d (a := ((a &&& (268435455 : Int32)) + (1 : Int32)).toInt64) (by omega)
  rw [show zval b64 (val64 dconst1) = (one64 : Int) from by decide +kernel] at h
  have h2 : zval b64 (val64 (l2d ((a &&& (268435455 : Int32)) + (1 : Int32)).toInt64)) = (zmag b64 (val64 (l2d ((a &&& (268435455 : Int32)) + (1 : Int32)).toInt64)) : Int) := by rw [e2]; rfl
  rw [h2] at h
  have h4 : 4 ≤ one64 := by decide +kernel
  omega
theorem own_pos_val (a : Int32) : val64 (own_pos a) ≠ .nan := by
  obtain ⟨A, q, e, -⟩ := own_fin_pos a
  exact own_div_nn e own_four (by decide)
theorem own_pos_nn (a : Int32) : Jvm.Free.Fl.NoNaN64 (own_pos a) := Jvm.Free.Fl.val64_no.mpr (own_pos_val a)
/-- the least number of the format is at most a whole number through four -/
theorem own_pos_zmag (a : Int32) : 0 < zmag b64 (val64 (own_pos a)) := by
  obtain ⟨A, q, e, hA⟩ := own_fin_pos a
  have fa := val64_fits (i2d ((a &&& (268435455 : Int32)) + (1 : Int32)))
  rw [e] at fa
  have h := own_div_ge (V := (1 : UInt64)) e own_four (by decide) (by
    have e1 : zmag b64 (val64 (1 : UInt64)) = 1 := by decide +kernel
    rw [e1, Nat.one_mul, e, own_zfin]
    have e4 : zmag b64 (val64 (4616189618054758400 : UInt64)) ≤ one64 * 4 := by decide +kernel
    have hbig : 4 ≤ A * 2 ^ (q - b64.qmin).toNat := by
      have hq := own_big a
      rw [e, own_zfin] at hq
      exact hq
    calc zmag b64 (val64 (4616189618054758400 : UInt64)) ≤ one64 * 4 := e4
      _ = 4 * one64 := Nat.mul_comm _ _
      _ ≤ A * 2 ^ (q - b64.qmin).toNat * one64 := Nat.mul_le_mul_right _ hbig)
  have e1 : zmag b64 (val64 (1 : UInt64)) = 1 := by decide +kernel
  rw [e1] at h
  exact h
theorem own_pos_gt (a : Int32) : cmpValue (FP.dcmp (own_pos a) FP.dconst0) .l = (1 : Int32) := by
  obtain ⟨A, q, e, hA⟩ := own_fin_pos a
  have h := dcmp_zval (own_pos_val a) own_zero_nn
  have hs : sgn (val64 (own_pos a)) = (false != false) := own_sgn_div e own_four (by decide)
  have hz : zval b64 (val64 (own_pos a)) = (zmag b64 (val64 (own_pos a)) : Int) := by unfold zval; rw [hs]; rfl
  rw [hz, show zval b64 (val64 dconst0) = 0 from by decide +kernel] at h
  show cmpValue (dcmp (own_pos a) dconst0) .l = (1 : Int32)
  rw [h]
  have hp := own_pos_zmag a
  rw [(compare_gt_iff _ _).mpr (by omega)]
  rfl
end OwnP
theorem d6_0 : decode jdk_71_method_1_code 0 = .ok (.aload_n 0, 1) := by decide +kernel
theorem d6_1 : decode jdk_71_method_1_code 1 = .ok (.invokespecial 1, 3) := by decide +kernel
theorem d6_4 : decode jdk_71_method_1_code 4 = .ok (.return_, 1) := by decide +kernel
theorem pn_6 : plainName "java/util/AbstractMap" = true := by first | (simp [plainName, overriddenIn]; done) | decide +kernel
theorem ef_rmAM (m : MethodId) (x0 : Addr) : entryFrame m #[(.ref x0)] 1 = mkF m 0 #[.val (.ref x0)] [] := by first | (simp [entryFrame, mkF, argsToLocals, Value.category]; done) | rfl
def Q_rmAM (Z : State) (a1 : Addr) (h0 : Heap) (n0 : Nat) (v : Option Value) (h : Heap) (L : List Loc) : Prop := v = none ∧ Fr n0 L ∧ h = h0
set_option maxRecDepth 65536 in
set_option maxHeartbeats 40000000 in
theorem rmAM (l : Launch) (Z : State) (a0 : Array Value) (hw : ∀ d ∈ tables_1, d.before a0 Z = true) (ws : List Jvm.Cond) (a1 : Addr) (h0 : Heap) (n0 : Nat) (Z0 : n0 ≤ h0.size) :
    MetFree l (⟨"java/util/AbstractMap", "<init>", "()V"⟩ : MethodName) (head1 (Jvm.Cond.code (⟨"java/util/AbstractMap", "<init>", "()V"⟩ : MethodName) jdk_71_method_1_code 1 none :: ws) ({ frames := 1, cells := 0, slots := 0, locals := 12 } : Room)) (fun a U => a = #[(.ref a1)] ∧ Z.Warmed39 U.vm ∧ U.heap = h0) (fun _ _ _ _ _ => True) (fun _ U o U' => ∃ v L, o = .returned v ∧ Q_rmAM Z a1 h0 n0 v U'.heap L ∧ FrameEnd U o U' L ({ frames := 1, cells := 0, slots := 0, locals := 12 } : Room).cells ({ frames := 1, cells := 0, slots := 0, locals := 12 } : Room).slots) := by
  refine MetFree.of_bodySF (plainFor_of_name pn_6) hisR ?_
  intro p e s m args below meth c s₁ Bd hml0 hP hK
  obtain ⟨rfl, hZ, hh⟩ := hP
  have hx := Bd.exec
  have hby := Bd.bytes
  have hml : c.maxLocals = 1 := hml0
  have hown : s.vm.findClass "java/util/AbstractMap" = some m.cls := findClass_of_methodNamed Bd.named
  have hnm := (name_of_methodNamed Bd.named Bd.method).1
  have X0 : Stand p l e ({ frames := 1, cells := 0, slots := 0, locals := 12 } : Room) s m #[(.ref a1)] below meth c s₁ [] 0 0 := Stand.of_body Bd
  have e0 : s₁.heap = h0 := by rw [← hh, Bd.state]; rfl
  have N0 := Fr.nil n0
  refine own_enter (ef_rmAM m a1) ?_
  refine own_st (fun t_ k_ => XS.aloadN X0.here hx rfl (hb hby d6_0) rfl rfl k_) ?_
  show own_Go p e below s₁ (mkF m 1 #[.val (.ref a1)] [(.ref a1)]) _
  obtain ⟨T1, X1, e1, st1⟩ := initO X0 hx hZ hown (hw _ (List.mem_of_getElem? (i := 42) rfl)) (hw _ (List.mem_of_getElem? (i := 13) rfl)) (hw _ (List.mem_of_getElem? (i := 14) rfl)) e0 (g := (mkF m 1 #[.val (.ref a1)] [(.ref a1)])) rfl (by rw [hml]; rfl) rfl (hb hby d6_1) (by decide) (W := 0) (by show 2 * 0 + _ ≤ _; exact Nat.le_of_eq rfl) (by decide)
  refine own_st st1 ?_
  show own_Go p e below T1 (mkF m 4 #[.val (.ref a1)] []) _
  obtain ⟨fs, hr, hrun, hended, hW, hsame⟩ := X1.leave (v := none) (fun _ => rfl)
  refine own_fin (X1.returnOut hx Bd.returns (hb hby d6_4) hr) ⟨hrun, hended, _, _, rfl, ?_, ⟨_, rfl⟩, hW, hsame.mono (by decide) (by decide)⟩
  show Q_rmAM Z a1 h0 n0 _ T1.heap _
  rw [e1]
  exact ⟨rfl, N0, rfl⟩
theorem d5_0 : decode jdk_69_method_7_code 0 = .ok (.aload_n 0, 1) := by decide +kernel
theorem d5_1 : decode jdk_69_method_7_code 1 = .ok (.invokespecial 43, 3) := by decide +kernel
theorem d5_4 : decode jdk_69_method_7_code 4 = .ok (.aload_n 0, 1) := by decide +kernel
theorem d5_5 : decode jdk_69_method_7_code 5 = .ok (.ldc 92, 2) := by decide +kernel
theorem d5_7 : decode jdk_69_method_7_code 7 = .ok (.putfield 81, 3) := by decide +kernel
theorem d5_10 : decode jdk_69_method_7_code 10 = .ok (.return_, 1) := by decide +kernel
theorem pn_5 : plainName "java/util/HashMap" = true := by first | (simp [plainName, overriddenIn]; done) | decide +kernel
theorem pd___V : parseMethodDescriptor "()V" = some ⟨[], none⟩ := by decide +kernel
theorem ef_rmHM (m : MethodId) (x0 : Addr) : entryFrame m #[(.ref x0)] 1 = mkF m 0 #[.val (.ref x0)] [] := by first | (simp [entryFrame, mkF, argsToLocals, Value.category]; done) | rfl
def Q_rmHM (Z : State) (a1 : Addr) (u1 : Value) (u2 : Value) (u3 : Value) (h0 : Heap) (n0 : Nat) (v : Option Value) (h : Heap) (L : List Loc) : Prop := v = none ∧ Fr n0 L ∧ Keep h0 h [a1] ∧ Fld Z h a1 "java/util/LinkedHashMap" "putMode" "I" u2 ∧ Fld Z h a1 "java/util/LinkedHashMap" "accessOrder" "Z" u3
set_option maxRecDepth 65536 in
set_option maxHeartbeats 40000000 in
theorem rmHM (l : Launch) (Z : State) (a0 : Array Value) (hw : ∀ d ∈ tables_1, d.before a0 Z = true) (ws : List Jvm.Cond) (a1 : Addr) (u1 : Value) (u2 : Value) (u3 : Value) (h0 : Heap) (n0 : Nat) (Z0 : n0 ≤ h0.size) (pE_a1 : Exa Z h0 a1 "java/util/LinkedHashMap") (pF_loadFactor_a1 : Fld Z h0 a1 "java/util/HashMap" "loadFactor" "F" u1) (pF_putMode_a1 : Fld Z h0 a1 "java/util/LinkedHashMap" "putMode" "I" u2) (pF_accessOrder_a1 : Fld Z h0 a1 "java/util/LinkedHashMap" "accessOrder" "Z" u3) (pG_a1 : n0 ≤ a1) :
    MetFree l (⟨"java/util/HashMap", "<init>", "()V"⟩ : MethodName) (head1 (Jvm.Cond.code (⟨"java/util/HashMap", "<init>", "()V"⟩ : MethodName) jdk_69_method_7_code 1 none :: ws) ({ frames := 2, cells := 0, slots := 0, locals := 24 } : Room)) (fun a U => a = #[(.ref a1)] ∧ Z.Warmed39 U.vm ∧ U.heap = h0) (fun _ _ _ _ _ => True) (fun _ U o U' => ∃ v L, o = .returned v ∧ Q_rmHM Z a1 u1 u2 u3 h0 n0 v U'.heap L ∧ FrameEnd U o U' L ({ frames := 2, cells := 0, slots := 0, locals := 24 } : Room).cells ({ frames := 2, cells := 0, slots := 0, locals := 24 } : Room).slots) := by
  refine MetFree.of_bodySF (plainFor_of_name pn_5) hisR ?_
  intro p e s m args below meth c s₁ Bd hml0 hP hK
  obtain ⟨rfl, hZ, hh⟩ := hP
  have hx := Bd.exec
  have hby := Bd.bytes
  have hml : c.maxLocals = 1 := hml0
  have hown : s.vm.findClass "java/util/HashMap" = some m.cls := findClass_of_methodNamed Bd.named
  have hnm := (name_of_methodNamed Bd.named Bd.method).1
  have X0 : Stand p l e ({ frames := 2, cells := 0, slots := 0, locals := 24 } : Room) s m #[(.ref a1)] below meth c s₁ [] 0 0 := Stand.of_body Bd
  have e0 : s₁.heap = h0 := by rw [← hh, Bd.state]; rfl
  have N0 := Fr.nil n0
  refine own_enter (ef_rmHM m a1) ?_
  refine own_st (fun t_ k_ => XS.aloadN X0.here hx rfl (hb hby d5_0) rfl rfl k_) ?_
  show own_Go p e below s₁ (mkF m 1 #[.val (.ref a1)] [(.ref a1)]) _
  obtain ⟨_, _, ⟨T1, L1, k1, n1⟩, -, X1, ⟨Lc1, hQ1, l1, y1, z1⟩, st1⟩ := X0.specialBack hx (y := (⟨"java/util/AbstractMap", "<init>", "()V"⟩ : MethodName)) rfl hown (mvT hZ (hw _ (List.mem_of_getElem? (i := 36) rfl))) (mvT hZ (hw _ (List.mem_of_getElem? (i := 37) rfl))) (mvT hZ (hw _ (List.mem_of_getElem? (i := 41) rfl))) (by decide) (backOf (W := 0) (rmAM l Z a0 hw [] a1 h0 n0 Z0 ) hZ (hw _ (List.mem_of_getElem? (i := 41) rfl)) (hw _ (List.mem_of_getElem? (i := 40) rfl)) (by decide) (by decide)) (g := (mkF m 1 #[.val (.ref a1)] [(.ref a1)])) rfl (by rw [hml]; rfl) (Steps.refl _) (a := a1) (argsL := []) (rest := []) (lenOf pd___V rfl) rfl (by show 2 * 0 + _ ≤ _; exact Nat.le_of_eq rfl) (hb hby d5_1) (fun _ _ => ⟨rfl, e0, (by decide : 0 + 0 ≤ _), (by decide : 0 + 0 ≤ _)⟩)
  dsimp only [Pt.U, Pt.locs, Pt.cells, Pt.slots] at X1 l1 y1 z1 st1 hQ1
  subst l1 y1 z1
  obtain ⟨rfl, Nq1, eH1⟩ := hQ1
  have N1 := Fr.app N0 Nq1
  refine own_tr st1 ?_
  show own_Go p e below T1 (mkF m 4 #[.val (.ref a1)] []) _
  refine own_st (fun t_ k_ => XS.aloadN X1.here hx rfl (hb hby d5_4) rfl rfl k_) ?_
  show own_Go p e below T1 (mkF m 5 #[.val (.ref a1)] [(.ref a1)]) _
  refine own_st (fun t_ k_ => X1.ldcFloatC hx hown (mvT hZ (hw _ (List.mem_of_getElem? (i := 43) rfl))) (g := (mkF m 5 #[.val (.ref a1)] [(.ref a1)])) rfl (hb hby d5_5) _ k_) ?_
  show own_Go p e below T1 (mkF m 7 #[.val (.ref a1)] [(.float (1061158912 : UInt32)), (.ref a1)]) _
  obtain ⟨T2, h2, X2, e2, W2, st2⟩ := putF X1 hx hZ hown (host := "") (Or.inl (hw _ (List.mem_of_getElem? (i := 44) rfl))) Via.refl eH1 pF_loadFactor_a1 pE_a1 (Or.inr ⟨(hw _ (List.mem_of_getElem? (i := 45) rfl)), rfl, hnm⟩) (hw _ (List.mem_of_getElem? (i := 25) rfl)) (ty := .float) (by decide) rfl rfl (g := (mkF m 7 #[.val (.ref a1)] [(.float (1061158912 : UInt32)), (.ref a1)])) rfl rfl (hb hby d5_7)
  have F2 := pF_loadFactor_a1.same W2
  have K3 : Keep h0 h2 [a1] := (Keep.refl h0 [a1]).wr W2 (Or.inl (List.mem_of_getElem? (i := 0) rfl))
  have N2 := Fr.snoc X2 N1 pG_a1
  refine own_st st2 ?_
  show own_Go p e below T2 (mkF m 10 #[.val (.ref a1)] []) _
  have f4 := (pF_putMode_a1.other W2 (Or.inr (slot_ne (Or.inl (hw _ (List.mem_of_getElem? (i := 47) rfl))) (Or.inr (hw _ (List.mem_of_getElem? (i := 45) rfl))) (by decide) (t := .int) (t' := .float) (by decide) (by decide))))
  have f5 := (pF_accessOrder_a1.other W2 (Or.inr (slot_ne (Or.inr (hw _ (List.mem_of_getElem? (i := 49) rfl))) (Or.inr (hw _ (List.mem_of_getElem? (i := 45) rfl))) (by decide) (t := .boolean) (t' := .float) (by decide) (by decide))))
  obtain ⟨fs, hr, hrun, hended, hW, hsame⟩ := X2.leave (v := none) (fun _ => rfl)
  refine own_fin (X2.returnOut hx Bd.returns (hb hby d5_10) hr) ⟨hrun, hended, _, _, rfl, ?_, ⟨_, rfl⟩, hW, hsame.mono (by decide) (by decide)⟩
  show Q_rmHM Z a1 u1 u2 u3 h0 n0 _ T2.heap _
  rw [e2]
  exact ⟨rfl, N2, K3, f4, f5⟩
theorem d4_0 : decode jdk_94_method_16_code 0 = .ok (.aload_n 0, 1) := by decide +kernel
theorem d4_1 : decode jdk_94_method_16_code 1 = .ok (.invokespecial 87, 3) := by decide +kernel
theorem d4_4 : decode jdk_94_method_16_code 4 = .ok (.aload_n 0, 1) := by decide +kernel
theorem d4_5 : decode jdk_94_method_16_code 5 = .ok (.iconst 0, 1) := by decide +kernel
theorem d4_6 : decode jdk_94_method_16_code 6 = .ok (.putfield 1, 3) := by decide +kernel
theorem d4_9 : decode jdk_94_method_16_code 9 = .ok (.aload_n 0, 1) := by decide +kernel
theorem d4_10 : decode jdk_94_method_16_code 10 = .ok (.iconst 0, 1) := by decide +kernel
theorem d4_11 : decode jdk_94_method_16_code 11 = .ok (.putfield 64, 3) := by decide +kernel
theorem d4_14 : decode jdk_94_method_16_code 14 = .ok (.return_, 1) := by decide +kernel
theorem pn_4 : plainName "java/util/LinkedHashMap" = true := by first | (simp [plainName, overriddenIn]; done) | decide +kernel
theorem ef_rmLH (m : MethodId) (x0 : Addr) : entryFrame m #[(.ref x0)] 1 = mkF m 0 #[.val (.ref x0)] [] := by first | (simp [entryFrame, mkF, argsToLocals, Value.category]; done) | rfl
def Q_rmLH (Z : State) (a1 : Addr) (u1 : Value) (u2 : Value) (u3 : Value) (h0 : Heap) (n0 : Nat) (v : Option Value) (h : Heap) (L : List Loc) : Prop := v = none ∧ Fr n0 L ∧ Keep h0 h [a1]
set_option maxRecDepth 65536 in
set_option maxHeartbeats 40000000 in
theorem rmLH (l : Launch) (Z : State) (a0 : Array Value) (hw : ∀ d ∈ tables_1, d.before a0 Z = true) (ws : List Jvm.Cond) (a1 : Addr) (u1 : Value) (u2 : Value) (u3 : Value) (h0 : Heap) (n0 : Nat) (Z0 : n0 ≤ h0.size) (pE_a1 : Exa Z h0 a1 "java/util/LinkedHashMap") (pF_loadFactor_a1 : Fld Z h0 a1 "java/util/HashMap" "loadFactor" "F" u1) (pF_putMode_a1 : Fld Z h0 a1 "java/util/LinkedHashMap" "putMode" "I" u2) (pF_accessOrder_a1 : Fld Z h0 a1 "java/util/LinkedHashMap" "accessOrder" "Z" u3) (pG_a1 : n0 ≤ a1) :
    MetFree l (⟨"java/util/LinkedHashMap", "<init>", "()V"⟩ : MethodName) (head1 (Jvm.Cond.code (⟨"java/util/LinkedHashMap", "<init>", "()V"⟩ : MethodName) jdk_94_method_16_code 1 none :: ws) ({ frames := 3, cells := 0, slots := 0, locals := 36 } : Room)) (fun a U => a = #[(.ref a1)] ∧ Z.Warmed39 U.vm ∧ U.heap = h0) (fun _ _ _ _ _ => True) (fun _ U o U' => ∃ v L, o = .returned v ∧ Q_rmLH Z a1 u1 u2 u3 h0 n0 v U'.heap L ∧ FrameEnd U o U' L ({ frames := 3, cells := 0, slots := 0, locals := 36 } : Room).cells ({ frames := 3, cells := 0, slots := 0, locals := 36 } : Room).slots) := by
  refine MetFree.of_bodySF (plainFor_of_name pn_4) hisR ?_
  intro p e s m args below meth c s₁ Bd hml0 hP hK
  obtain ⟨rfl, hZ, hh⟩ := hP
  have hx := Bd.exec
  have hby := Bd.bytes
  have hml : c.maxLocals = 1 := hml0
  have hown : s.vm.findClass "java/util/LinkedHashMap" = some m.cls := findClass_of_methodNamed Bd.named
  have hnm := (name_of_methodNamed Bd.named Bd.method).1
  have X0 : Stand p l e ({ frames := 3, cells := 0, slots := 0, locals := 36 } : Room) s m #[(.ref a1)] below meth c s₁ [] 0 0 := Stand.of_body Bd
  have e0 : s₁.heap = h0 := by rw [← hh, Bd.state]; rfl
  have N0 := Fr.nil n0
  refine own_enter (ef_rmLH m a1) ?_
  refine own_st (fun t_ k_ => XS.aloadN X0.here hx rfl (hb hby d4_0) rfl rfl k_) ?_
  show own_Go p e below s₁ (mkF m 1 #[.val (.ref a1)] [(.ref a1)]) _
  obtain ⟨_, _, ⟨T1, L1, k1, n1⟩, -, X1, ⟨Lc1, hQ1, l1, y1, z1⟩, st1⟩ := X0.specialBack hx (y := (⟨"java/util/HashMap", "<init>", "()V"⟩ : MethodName)) rfl hown (mvT hZ (hw _ (List.mem_of_getElem? (i := 30) rfl))) (mvT hZ (hw _ (List.mem_of_getElem? (i := 31) rfl))) (mvT hZ (hw _ (List.mem_of_getElem? (i := 35) rfl))) (by decide) (backOf (W := 0) (rmHM l Z a0 hw [] a1 u1 u2 u3 h0 n0 Z0 pE_a1 pF_loadFactor_a1 pF_putMode_a1 pF_accessOrder_a1 pG_a1) hZ (hw _ (List.mem_of_getElem? (i := 35) rfl)) (hw _ (List.mem_of_getElem? (i := 34) rfl)) (by decide) (by decide)) (g := (mkF m 1 #[.val (.ref a1)] [(.ref a1)])) rfl (by rw [hml]; rfl) (Steps.refl _) (a := a1) (argsL := []) (rest := []) (lenOf pd___V rfl) rfl (by show 2 * 0 + _ ≤ _; exact Nat.le_of_eq rfl) (hb hby d4_1) (fun _ _ => ⟨rfl, e0, (by decide : 0 + 0 ≤ _), (by decide : 0 + 0 ≤ _)⟩)
  dsimp only [Pt.U, Pt.locs, Pt.cells, Pt.slots] at X1 l1 y1 z1 st1 hQ1
  subst l1 y1 z1
  obtain ⟨rfl, Nq1, Kq1, q1_0, q1_1⟩ := hQ1
  have N1 := Fr.app N0 Nq1
  have K2 : Keep h0 T1.heap [a1] := (Keep.refl h0 [a1]).trans Kq1 (allS (Or.inl (List.mem_of_getElem? (i := 0) rfl)) all0)
  refine own_tr st1 ?_
  show own_Go p e below T1 (mkF m 4 #[.val (.ref a1)] []) _
  refine own_st (fun t_ k_ => XS.aloadN X1.here hx rfl (hb hby d4_4) rfl rfl k_) ?_
  show own_Go p e below T1 (mkF m 5 #[.val (.ref a1)] [(.ref a1)]) _
  refine own_st (fun t_ k_ => XS.iconst X1.here hx rfl (hb hby d4_5) k_) ?_
  show own_Go p e below T1 (mkF m 6 #[.val (.ref a1)] [(.int (0 : Int32)), (.ref a1)]) _
  have f3 := (pE_a1.keep Kq1)
  obtain ⟨T4, h4, X4, e4, W4, st4⟩ := putF X1 hx hZ hown (host := "") (Or.inl (hw _ (List.mem_of_getElem? (i := 46) rfl))) Via.refl rfl q1_0 f3 (Or.inl (hw _ (List.mem_of_getElem? (i := 47) rfl))) (hw _ (List.mem_of_getElem? (i := 25) rfl)) (ty := .int) (by decide) rfl rfl (g := (mkF m 6 #[.val (.ref a1)] [(.int (0 : Int32)), (.ref a1)])) rfl rfl (hb hby d4_6)
  have F4 := q1_0.same W4
  have K5 : Keep h0 h4 [a1] := K2.wr W4 (Or.inl (List.mem_of_getElem? (i := 0) rfl))
  have N4 := Fr.snoc X4 N1 pG_a1
  refine own_st st4 ?_
  show own_Go p e below T4 (mkF m 9 #[.val (.ref a1)] []) _
  refine own_st (fun t_ k_ => XS.aloadN X4.here hx rfl (hb hby d4_9) rfl rfl k_) ?_
  show own_Go p e below T4 (mkF m 10 #[.val (.ref a1)] [(.ref a1)]) _
  refine own_st (fun t_ k_ => XS.iconst X4.here hx rfl (hb hby d4_10) k_) ?_
  show own_Go p e below T4 (mkF m 11 #[.val (.ref a1)] [(.int (0 : Int32)), (.ref a1)]) _
  have f6 := (f3.wr W4)
  have f7 := (q1_1.other W4 (Or.inr (slot_ne (Or.inr (hw _ (List.mem_of_getElem? (i := 49) rfl))) (Or.inl (hw _ (List.mem_of_getElem? (i := 47) rfl))) (by decide) (t := .boolean) (t' := .int) (by decide) (by decide))))
  obtain ⟨T8, h8, X8, e8, W8, st8⟩ := putFN X4 hx hZ hown (hw _ (List.mem_of_getElem? (i := 48) rfl)) Via.refl e4 f7 f6 (Or.inr ⟨(hw _ (List.mem_of_getElem? (i := 49) rfl)), rfl, hnm⟩) (hw _ (List.mem_of_getElem? (i := 25) rfl)) (ty := .boolean) (v' := (.int (0 : Int32))) (by decide) rfl (by decide) (g := (mkF m 11 #[.val (.ref a1)] [(.int (0 : Int32)), (.ref a1)])) rfl rfl (hb hby d4_11)
  have F8 := f7.same W8
  have K9 : Keep h0 h8 [a1] := K5.wr W8 (Or.inl (List.mem_of_getElem? (i := 0) rfl))
  have N8 := Fr.snoc X8 N4 pG_a1
  refine own_st st8 ?_
  show own_Go p e below T8 (mkF m 14 #[.val (.ref a1)] []) _
  obtain ⟨fs, hr, hrun, hended, hW, hsame⟩ := X8.leave (v := none) (fun _ => rfl)
  refine own_fin (X8.returnOut hx Bd.returns (hb hby d4_14) hr) ⟨hrun, hended, _, _, rfl, ?_, ⟨_, rfl⟩, hW, hsame.mono (by decide) (by decide)⟩
  show Q_rmLH Z a1 u1 u2 u3 h0 n0 _ T8.heap _
  rw [e8]
  exact ⟨rfl, N8, K9⟩
theorem d2_0 : decode prog_73_method_1_code 0 = .ok (.aload_n 0, 1) := by decide +kernel
theorem d2_1 : decode prog_73_method_1_code 1 = .ok (.invokespecial 1, 3) := by decide +kernel
theorem d2_4 : decode prog_73_method_1_code 4 = .ok (.aload_n 0, 1) := by decide +kernel
theorem d2_5 : decode prog_73_method_1_code 5 = .ok (.ldc2_w 7, 3) := by decide +kernel
theorem d2_8 : decode prog_73_method_1_code 8 = .ok (.putfield 9, 3) := by decide +kernel
theorem d2_11 : decode prog_73_method_1_code 11 = .ok (.aload_n 0, 1) := by decide +kernel
theorem d2_12 : decode prog_73_method_1_code 12 = .ok (.ldc2_w 15, 3) := by decide +kernel
theorem d2_15 : decode prog_73_method_1_code 15 = .ok (.putfield 17, 3) := by decide +kernel
theorem d2_18 : decode prog_73_method_1_code 18 = .ok (.aload_n 0, 1) := by decide +kernel
theorem d2_19 : decode prog_73_method_1_code 19 = .ok (.ldc2_w 20, 3) := by decide +kernel
theorem d2_22 : decode prog_73_method_1_code 22 = .ok (.putfield 22, 3) := by decide +kernel
theorem d2_25 : decode prog_73_method_1_code 25 = .ok (.aload_n 0, 1) := by decide +kernel
theorem d2_26 : decode prog_73_method_1_code 26 = .ok (.new 25, 3) := by decide +kernel
theorem d2_29 : decode prog_73_method_1_code 29 = .ok (.dup, 1) := by decide +kernel
theorem d2_30 : decode prog_73_method_1_code 30 = .ok (.invokespecial 27, 3) := by decide +kernel
theorem d2_33 : decode prog_73_method_1_code 33 = .ok (.putfield 28, 3) := by decide +kernel
theorem d2_36 : decode prog_73_method_1_code 36 = .ok (.aload_n 0, 1) := by decide +kernel
theorem d2_37 : decode prog_73_method_1_code 37 = .ok (.new 25, 3) := by decide +kernel
theorem d2_40 : decode prog_73_method_1_code 40 = .ok (.dup, 1) := by decide +kernel
theorem d2_41 : decode prog_73_method_1_code 41 = .ok (.invokespecial 27, 3) := by decide +kernel
theorem d2_44 : decode prog_73_method_1_code 44 = .ok (.putfield 32, 3) := by decide +kernel
theorem d2_47 : decode prog_73_method_1_code 47 = .ok (.return_, 1) := by decide +kernel
theorem pn_2 : plainName "com/example/spillback/spillback/model/Network" = true := by first | (simp [plainName, overriddenIn]; done) | decide +kernel
theorem ef_rmNW (m : MethodId) (x0 : Addr) : entryFrame m #[(.ref x0)] 1 = mkF m 0 #[.val (.ref x0)] [] := by first | (simp [entryFrame, mkF, argsToLocals, Value.category]; done) | rfl
def Q_rmNW (Z : State) (a1 : Addr) (u0 : Value) (u1 : Value) (u2 : Value) (u3 : Value) (u4 : Value) (h0 : Heap) (n0 : Nat) (v : Option Value) (h : Heap) (L : List Loc) : Prop := v = none ∧ Fr n0 L ∧ Keep h0 h [a1] ∧ Fld Z h a1 "com/example/spillback/spillback/model/Network" "capacityPeriod" "D" (.double (4660134898793709568 : UInt64)) ∧ Fld Z h a1 "com/example/spillback/spillback/model/Network" "effectiveCellSize" "D" (.double (4620130267728707584 : UInt64)) ∧ Fld Z h a1 "com/example/spillback/spillback/model/Network" "effectiveLaneWidth" "D" (.double (4615626668101337088 : UInt64))
set_option maxRecDepth 65536 in
set_option maxHeartbeats 40000000 in
theorem rmNW (l : Launch) (Z : State) (a0 : Array Value) (hw : ∀ d ∈ tables_1, d.before a0 Z = true) (ws : List Jvm.Cond) (a1 : Addr) (u0 : Value) (u1 : Value) (u2 : Value) (u3 : Value) (u4 : Value) (h0 : Heap) (n0 : Nat) (Z0 : n0 ≤ h0.size) (pE_a1 : Exa Z h0 a1 "com/example/spillback/spillback/model/Network") (pF_capacityPeriod_a1 : Fld Z h0 a1 "com/example/spillback/spillback/model/Network" "capacityPeriod" "D" u0) (pF_effectiveCellSize_a1 : Fld Z h0 a1 "com/example/spillback/spillback/model/Network" "effectiveCellSize" "D" u1) (pF_effectiveLaneWidth_a1 : Fld Z h0 a1 "com/example/spillback/spillback/model/Network" "effectiveLaneWidth" "D" u2) (pF_nodes_a1 : Fld Z h0 a1 "com/example/spillback/spillback/model/Network" "nodes" "Ljava/util/Map;" u3) (pF_links_a1 : Fld Z h0 a1 "com/example/spillback/spillback/model/Network" "links" "Ljava/util/Map;" u4) (pG_a1 : n0 ≤ a1) :
    MetFree l (⟨"com/example/spillback/spillback/model/Network", "<init>", "()V"⟩ : MethodName) (head1 (Jvm.Cond.code (⟨"com/example/spillback/spillback/model/Network", "<init>", "()V"⟩ : MethodName) prog_73_method_1_code 1 none :: ws) ({ frames := 4, cells := 2, slots := 24, locals := 50 } : Room)) (fun a U => a = #[(.ref a1)] ∧ Z.Warmed39 U.vm ∧ U.heap = h0) (fun _ _ _ _ _ => True) (fun _ U o U' => ∃ v L, o = .returned v ∧ Q_rmNW Z a1 u0 u1 u2 u3 u4 h0 n0 v U'.heap L ∧ FrameEnd U o U' L ({ frames := 4, cells := 2, slots := 24, locals := 50 } : Room).cells ({ frames := 4, cells := 2, slots := 24, locals := 50 } : Room).slots) := by
  refine MetFree.of_bodySF (plainFor_of_name pn_2) hisR ?_
  intro p e s m args below meth c s₁ Bd hml0 hP hK
  obtain ⟨rfl, hZ, hh⟩ := hP
  have hx := Bd.exec
  have hby := Bd.bytes
  have hml : c.maxLocals = 1 := hml0
  have hown : s.vm.findClass "com/example/spillback/spillback/model/Network" = some m.cls := findClass_of_methodNamed Bd.named
  have hnm := (name_of_methodNamed Bd.named Bd.method).1
  have X0 : Stand p l e ({ frames := 4, cells := 2, slots := 24, locals := 50 } : Room) s m #[(.ref a1)] below meth c s₁ [] 0 0 := Stand.of_body Bd
  have e0 : s₁.heap = h0 := by rw [← hh, Bd.state]; rfl
  have N0 := Fr.nil n0
  refine own_enter (ef_rmNW m a1) ?_
  refine own_st (fun t_ k_ => XS.aloadN X0.here hx rfl (hb hby d2_0) rfl rfl k_) ?_
  show own_Go p e below s₁ (mkF m 1 #[.val (.ref a1)] [(.ref a1)]) _
  obtain ⟨T1, X1, e1, st1⟩ := initO X0 hx hZ hown (hw _ (List.mem_of_getElem? (i := 12) rfl)) (hw _ (List.mem_of_getElem? (i := 13) rfl)) (hw _ (List.mem_of_getElem? (i := 14) rfl)) e0 (g := (mkF m 1 #[.val (.ref a1)] [(.ref a1)])) rfl (by rw [hml]; rfl) rfl (hb hby d2_1) (by decide) (W := 0) (by show 2 * 0 + _ ≤ _; exact Nat.le_of_eq rfl) (by decide)
  refine own_st st1 ?_
  show own_Go p e below T1 (mkF m 4 #[.val (.ref a1)] []) _
  refine own_st (fun t_ k_ => XS.aloadN X1.here hx rfl (hb hby d2_4) rfl rfl k_) ?_
  show own_Go p e below T1 (mkF m 5 #[.val (.ref a1)] [(.ref a1)]) _
  refine own_st (fun t_ k_ => X1.ldc2DoubleC hx hown (mvT hZ (hw _ (List.mem_of_getElem? (i := 15) rfl))) (g := (mkF m 5 #[.val (.ref a1)] [(.ref a1)])) rfl (hb hby d2_5) _ k_) ?_
  show own_Go p e below T1 (mkF m 8 #[.val (.ref a1)] [(.double (4660134898793709568 : UInt64)), (.ref a1)]) _
  obtain ⟨T2, h2, X2, e2, W2, st2⟩ := putF X1 hx hZ hown (host := "") (Or.inl (hw _ (List.mem_of_getElem? (i := 16) rfl))) Via.refl e1 pF_capacityPeriod_a1 pE_a1 (Or.inl (hw _ (List.mem_of_getElem? (i := 17) rfl))) (hw _ (List.mem_of_getElem? (i := 7) rfl)) (ty := .double) (by decide) rfl rfl (g := (mkF m 8 #[.val (.ref a1)] [(.double (4660134898793709568 : UInt64)), (.ref a1)])) rfl rfl (hb hby d2_8)
  have F2 := pF_capacityPeriod_a1.same W2
  have K3 : Keep h0 h2 [a1] := (Keep.refl h0 [a1]).wr W2 (Or.inl (List.mem_of_getElem? (i := 0) rfl))
  have N2 := Fr.snoc X2 N0 pG_a1
  refine own_st st2 ?_
  show own_Go p e below T2 (mkF m 11 #[.val (.ref a1)] []) _
  refine own_st (fun t_ k_ => XS.aloadN X2.here hx rfl (hb hby d2_11) rfl rfl k_) ?_
  show own_Go p e below T2 (mkF m 12 #[.val (.ref a1)] [(.ref a1)]) _
  refine own_st (fun t_ k_ => X2.ldc2DoubleC hx hown (mvT hZ (hw _ (List.mem_of_getElem? (i := 18) rfl))) (g := (mkF m 12 #[.val (.ref a1)] [(.ref a1)])) rfl (hb hby d2_12) _ k_) ?_
  show own_Go p e below T2 (mkF m 15 #[.val (.ref a1)] [(.double (4620130267728707584 : UInt64)), (.ref a1)]) _
  have f4 := (pE_a1.wr W2)
  have f5 := (pF_effectiveCellSize_a1.other W2 (Or.inr (slot_ne (Or.inl (hw _ (List.mem_of_getElem? (i := 20) rfl))) (Or.inl (hw _ (List.mem_of_getElem? (i := 17) rfl))) (by decide) (t := .double) (t' := .double) (by decide) (by decide))))
  obtain ⟨T6, h6, X6, e6, W6, st6⟩ := putF X2 hx hZ hown (host := "") (Or.inl (hw _ (List.mem_of_getElem? (i := 19) rfl))) Via.refl e2 f5 f4 (Or.inl (hw _ (List.mem_of_getElem? (i := 20) rfl))) (hw _ (List.mem_of_getElem? (i := 7) rfl)) (ty := .double) (by decide) rfl rfl (g := (mkF m 15 #[.val (.ref a1)] [(.double (4620130267728707584 : UInt64)), (.ref a1)])) rfl rfl (hb hby d2_15)
  have F6 := f5.same W6
  have K7 : Keep h0 h6 [a1] := K3.wr W6 (Or.inl (List.mem_of_getElem? (i := 0) rfl))
  have N6 := Fr.snoc X6 N2 pG_a1
  refine own_st st6 ?_
  show own_Go p e below T6 (mkF m 18 #[.val (.ref a1)] []) _
  refine own_st (fun t_ k_ => XS.aloadN X6.here hx rfl (hb hby d2_18) rfl rfl k_) ?_
  show own_Go p e below T6 (mkF m 19 #[.val (.ref a1)] [(.ref a1)]) _
  refine own_st (fun t_ k_ => X6.ldc2DoubleC hx hown (mvT hZ (hw _ (List.mem_of_getElem? (i := 21) rfl))) (g := (mkF m 19 #[.val (.ref a1)] [(.ref a1)])) rfl (hb hby d2_19) _ k_) ?_
  show own_Go p e below T6 (mkF m 22 #[.val (.ref a1)] [(.double (4615626668101337088 : UInt64)), (.ref a1)]) _
  have f8 := (f4.wr W6)
  have f9 := ((pF_effectiveLaneWidth_a1.other W2 (Or.inr (slot_ne (Or.inl (hw _ (List.mem_of_getElem? (i := 23) rfl))) (Or.inl (hw _ (List.mem_of_getElem? (i := 17) rfl))) (by decide) (t := .double) (t' := .double) (by decide) (by decide)))).other W6 (Or.inr (slot_ne (Or.inl (hw _ (List.mem_of_getElem? (i := 23) rfl))) (Or.inl (hw _ (List.mem_of_getElem? (i := 20) rfl))) (by decide) (t := .double) (t' := .double) (by decide) (by decide))))
  obtain ⟨T10, h10, X10, e10, W10, st10⟩ := putF X6 hx hZ hown (host := "") (Or.inl (hw _ (List.mem_of_getElem? (i := 22) rfl))) Via.refl e6 f9 f8 (Or.inl (hw _ (List.mem_of_getElem? (i := 23) rfl))) (hw _ (List.mem_of_getElem? (i := 7) rfl)) (ty := .double) (by decide) rfl rfl (g := (mkF m 22 #[.val (.ref a1)] [(.double (4615626668101337088 : UInt64)), (.ref a1)])) rfl rfl (hb hby d2_22)
  have F10 := f9.same W10
  have K11 : Keep h0 h10 [a1] := K7.wr W10 (Or.inl (List.mem_of_getElem? (i := 0) rfl))
  have N10 := Fr.snoc X10 N6 pG_a1
  refine own_st st10 ?_
  show own_Go p e below T10 (mkF m 25 #[.val (.ref a1)] []) _
  refine own_st (fun t_ k_ => XS.aloadN X10.here hx rfl (hb hby d2_25) rfl rfl k_) ?_
  show own_Go p e below T10 (mkF m 26 #[.val (.ref a1)] [(.ref a1)]) _
  have f12 := (Nat.le_trans (Nat.le_trans (Nat.le_trans Z0 (Keep.of_wr W2).1) (Keep.of_wr W6).1) (Keep.of_wr W10).1)
  obtain ⟨T13, h13, X13, e13, E13, A13, D13, -, st13⟩ := newO X10 hx hZ hown (hw _ (List.mem_of_getElem? (i := 24) rfl)) (hw _ (List.mem_of_getElem? (i := 25) rfl)) (hw _ (List.mem_of_getElem? (i := 26) rfl)) e10 (g := (mkF m 26 #[.val (.ref a1)] [(.ref a1)])) rfl (hb hby d2_26) (by decide) (by decide)
  obtain ⟨b13, g13⟩ : ∃ z, z = h10.size := ⟨_, rfl⟩
  rw [← g13] at A13 D13 st13
  have G13 : n0 ≤ b13 := Nat.le_trans f12 (Nat.le_of_eq g13.symm)
  have B13 : h0.size ≤ b13 := Nat.le_trans K11.1 (Nat.le_of_eq g13.symm)
  have K14 : Keep h0 h13 [a1] := K11.ext E13
  have D13_loadFactor : Fld Z h13 b13 "java/util/HashMap" "loadFactor" "F" (.float (0 : UInt32)) := D13 (Or.inr (hw _ (List.mem_of_getElem? (i := 45) rfl))) (ty := .float) (by decide)
  have D13_putMode : Fld Z h13 b13 "java/util/LinkedHashMap" "putMode" "I" (.int (0 : Int32)) := D13 (Or.inl (hw _ (List.mem_of_getElem? (i := 47) rfl))) (ty := .int) (by decide)
  have D13_accessOrder : Fld Z h13 b13 "java/util/LinkedHashMap" "accessOrder" "Z" (.int (0 : Int32)) := D13 (Or.inr (hw _ (List.mem_of_getElem? (i := 49) rfl))) (ty := .boolean) (by decide)
  refine own_st st13 ?_
  show own_Go p e below T13 (mkF m 29 #[.val (.ref a1)] [(.ref b13), (.ref a1)]) _
  refine own_st (fun t_ k_ => XS.dup X13.here hx rfl (hb hby d2_29) rfl rfl k_) ?_
  show own_Go p e below T13 (mkF m 30 #[.val (.ref a1)] [(.ref b13), (.ref b13), (.ref a1)]) _
  have f15 := (Nat.le_trans f12 E13.1)
  obtain ⟨_, _, ⟨T16, L16, k16, n16⟩, -, X16, ⟨Lc16, hQ16, l16, y16, z16⟩, st16⟩ := X13.specialBack hx (y := (⟨"java/util/LinkedHashMap", "<init>", "()V"⟩ : MethodName)) rfl hown (mvT hZ (hw _ (List.mem_of_getElem? (i := 27) rfl))) (mvT hZ (hw _ (List.mem_of_getElem? (i := 28) rfl))) (mvT hZ (hw _ (List.mem_of_getElem? (i := 29) rfl))) (by decide) (backOf (W := 2) (rmLH l Z a0 hw [] b13 ((.float (0 : UInt32))) ((.int (0 : Int32))) ((.int (0 : Int32))) h13 n0 f15 A13 D13_loadFactor D13_putMode D13_accessOrder G13) hZ (hw _ (List.mem_of_getElem? (i := 29) rfl)) (hw _ (List.mem_of_getElem? (i := 26) rfl)) (by decide) (by decide)) (g := (mkF m 30 #[.val (.ref a1)] [(.ref b13), (.ref b13), (.ref a1)])) rfl (by rw [hml]; rfl) (Steps.refl _) (a := b13) (argsL := []) (rest := [(.ref b13), (.ref a1)]) (lenOf pd___V rfl) rfl (by show 2 * 0 + _ ≤ _; exact Nat.le_of_eq rfl) (hb hby d2_30) (fun _ _ => ⟨rfl, e13, (by decide : 1 + 0 ≤ _), (by decide : 12 + 0 ≤ _)⟩)
  dsimp only [Pt.U, Pt.locs, Pt.cells, Pt.slots] at X16 l16 y16 z16 st16 hQ16
  subst l16 y16 z16
  obtain ⟨rfl, Nq16, Kq16⟩ := hQ16
  have N16 := Fr.app N10 Nq16
  have K17 : Keep h0 T16.heap [a1] := K14.trans Kq16 (allS (Or.inr B13) all0)
  refine own_tr st16 ?_
  show own_Go p e below T16 (mkF m 33 #[.val (.ref a1)] [(.ref b13), (.ref a1)]) _
  have f18 := (((f8.wr W10).ext E13).keep Kq16)
  have f19 := (((((pF_nodes_a1.other W2 (Or.inr (slot_ne (Or.inr (hw _ (List.mem_of_getElem? (i := 51) rfl))) (Or.inl (hw _ (List.mem_of_getElem? (i := 17) rfl))) (by decide) (t := (.object "java/util/Map")) (t' := .double) (by decide) (by decide)))).other W6 (Or.inr (slot_ne (Or.inr (hw _ (List.mem_of_getElem? (i := 51) rfl))) (Or.inl (hw _ (List.mem_of_getElem? (i := 20) rfl))) (by decide) (t := (.object "java/util/Map")) (t' := .double) (by decide) (by decide)))).other W10 (Or.inr (slot_ne (Or.inr (hw _ (List.mem_of_getElem? (i := 51) rfl))) (Or.inl (hw _ (List.mem_of_getElem? (i := 23) rfl))) (by decide) (t := (.object "java/util/Map")) (t' := .double) (by decide) (by decide)))).ext E13).keep Kq16 (ninS (Nat.ne_of_lt (Nat.lt_of_lt_of_le (f8.wr W10).lt (Nat.le_of_eq g13.symm))) nin0))
  obtain ⟨T20, h20, X20, e20, W20, st20⟩ := putF X16 hx hZ hown (host := "") (Or.inl (hw _ (List.mem_of_getElem? (i := 50) rfl))) Via.refl rfl f19 f18 (Or.inr ⟨(hw _ (List.mem_of_getElem? (i := 51) rfl)), rfl, hnm⟩) (hw _ (List.mem_of_getElem? (i := 7) rfl)) (ty := (.object "java/util/Map")) (by decide) rfl rfl (g := (mkF m 33 #[.val (.ref a1)] [(.ref b13), (.ref a1)])) rfl rfl (hb hby d2_33)
  have F20 := f19.same W20
  have K21 : Keep h0 h20 [a1] := K17.wr W20 (Or.inl (List.mem_of_getElem? (i := 0) rfl))
  have N20 := Fr.snoc X20 N16 pG_a1
  refine own_st st20 ?_
  show own_Go p e below T20 (mkF m 36 #[.val (.ref a1)] []) _
  refine own_st (fun t_ k_ => XS.aloadN X20.here hx rfl (hb hby d2_36) rfl rfl k_) ?_
  show own_Go p e below T20 (mkF m 37 #[.val (.ref a1)] [(.ref a1)]) _
  have f22 := (Nat.le_trans (Nat.le_trans f15 Kq16.1) (Keep.of_wr W20).1)
  obtain ⟨T23, h23, X23, e23, E23, A23, D23, -, st23⟩ := newO X20 hx hZ hown (hw _ (List.mem_of_getElem? (i := 24) rfl)) (hw _ (List.mem_of_getElem? (i := 25) rfl)) (hw _ (List.mem_of_getElem? (i := 26) rfl)) e20 (g := (mkF m 37 #[.val (.ref a1)] [(.ref a1)])) rfl (hb hby d2_37) (by decide) (by decide)
  obtain ⟨b23, g23⟩ : ∃ z, z = h20.size := ⟨_, rfl⟩
  rw [← g23] at A23 D23 st23
  have G23 : n0 ≤ b23 := Nat.le_trans f22 (Nat.le_of_eq g23.symm)
  have B23 : h0.size ≤ b23 := Nat.le_trans K21.1 (Nat.le_of_eq g23.symm)
  have K24 : Keep h0 h23 [a1] := K21.ext E23
  have D23_loadFactor : Fld Z h23 b23 "java/util/HashMap" "loadFactor" "F" (.float (0 : UInt32)) := D23 (Or.inr (hw _ (List.mem_of_getElem? (i := 45) rfl))) (ty := .float) (by decide)
  have D23_putMode : Fld Z h23 b23 "java/util/LinkedHashMap" "putMode" "I" (.int (0 : Int32)) := D23 (Or.inl (hw _ (List.mem_of_getElem? (i := 47) rfl))) (ty := .int) (by decide)
  have D23_accessOrder : Fld Z h23 b23 "java/util/LinkedHashMap" "accessOrder" "Z" (.int (0 : Int32)) := D23 (Or.inr (hw _ (List.mem_of_getElem? (i := 49) rfl))) (ty := .boolean) (by decide)
  refine own_st st23 ?_
  show own_Go p e below T23 (mkF m 40 #[.val (.ref a1)] [(.ref b23), (.ref a1)]) _
  refine own_st (fun t_ k_ => XS.dup X23.here hx rfl (hb hby d2_40) rfl rfl k_) ?_
  show own_Go p e below T23 (mkF m 41 #[.val (.ref a1)] [(.ref b23), (.ref b23), (.ref a1)]) _
  have f25 := (Nat.le_trans f22 E23.1)
  obtain ⟨_, _, ⟨T26, L26, k26, n26⟩, -, X26, ⟨Lc26, hQ26, l26, y26, z26⟩, st26⟩ := X23.specialBack hx (y := (⟨"java/util/LinkedHashMap", "<init>", "()V"⟩ : MethodName)) rfl hown (mvT hZ (hw _ (List.mem_of_getElem? (i := 27) rfl))) (mvT hZ (hw _ (List.mem_of_getElem? (i := 28) rfl))) (mvT hZ (hw _ (List.mem_of_getElem? (i := 29) rfl))) (by decide) (backOf (W := 2) (rmLH l Z a0 hw [] b23 ((.float (0 : UInt32))) ((.int (0 : Int32))) ((.int (0 : Int32))) h23 n0 f25 A23 D23_loadFactor D23_putMode D23_accessOrder G23) hZ (hw _ (List.mem_of_getElem? (i := 29) rfl)) (hw _ (List.mem_of_getElem? (i := 26) rfl)) (by decide) (by decide)) (g := (mkF m 41 #[.val (.ref a1)] [(.ref b23), (.ref b23), (.ref a1)])) rfl (by rw [hml]; rfl) (Steps.refl _) (a := b23) (argsL := []) (rest := [(.ref b23), (.ref a1)]) (lenOf pd___V rfl) rfl (by show 2 * 0 + _ ≤ _; exact Nat.le_of_eq rfl) (hb hby d2_41) (fun _ _ => ⟨rfl, e23, (by decide : 2 + 0 ≤ _), (by decide : 24 + 0 ≤ _)⟩)
  dsimp only [Pt.U, Pt.locs, Pt.cells, Pt.slots] at X26 l26 y26 z26 st26 hQ26
  subst l26 y26 z26
  obtain ⟨rfl, Nq26, Kq26⟩ := hQ26
  have N26 := Fr.app N20 Nq26
  have K27 : Keep h0 T26.heap [a1] := K24.trans Kq26 (allS (Or.inr B23) all0)
  refine own_tr st26 ?_
  show own_Go p e below T26 (mkF m 44 #[.val (.ref a1)] [(.ref b23), (.ref a1)]) _
  have f28 := (((f18.wr W20).ext E23).keep Kq26)
  have f29 := ((((((((pF_links_a1.other W2 (Or.inr (slot_ne (Or.inr (hw _ (List.mem_of_getElem? (i := 53) rfl))) (Or.inl (hw _ (List.mem_of_getElem? (i := 17) rfl))) (by decide) (t := (.object "java/util/Map")) (t' := .double) (by decide) (by decide)))).other W6 (Or.inr (slot_ne (Or.inr (hw _ (List.mem_of_getElem? (i := 53) rfl))) (Or.inl (hw _ (List.mem_of_getElem? (i := 20) rfl))) (by decide) (t := (.object "java/util/Map")) (t' := .double) (by decide) (by decide)))).other W10 (Or.inr (slot_ne (Or.inr (hw _ (List.mem_of_getElem? (i := 53) rfl))) (Or.inl (hw _ (List.mem_of_getElem? (i := 23) rfl))) (by decide) (t := (.object "java/util/Map")) (t' := .double) (by decide) (by decide)))).ext E13).keep Kq16 (ninS (Nat.ne_of_lt (Nat.lt_of_lt_of_le (f8.wr W10).lt (Nat.le_of_eq g13.symm))) nin0)).other W20 (Or.inr (slot_ne (Or.inr (hw _ (List.mem_of_getElem? (i := 53) rfl))) (Or.inr (hw _ (List.mem_of_getElem? (i := 51) rfl))) (by decide) (t := (.object "java/util/Map")) (t' := (.object "java/util/Map")) (by decide) (by decide)))).ext E23).keep Kq26 (ninS (Nat.ne_of_lt (Nat.lt_of_lt_of_le (f18.wr W20).lt (Nat.le_of_eq g23.symm))) nin0))
  obtain ⟨T30, h30, X30, e30, W30, st30⟩ := putF X26 hx hZ hown (host := "") (Or.inl (hw _ (List.mem_of_getElem? (i := 52) rfl))) Via.refl rfl f29 f28 (Or.inr ⟨(hw _ (List.mem_of_getElem? (i := 53) rfl)), rfl, hnm⟩) (hw _ (List.mem_of_getElem? (i := 7) rfl)) (ty := (.object "java/util/Map")) (by decide) rfl rfl (g := (mkF m 44 #[.val (.ref a1)] [(.ref b23), (.ref a1)])) rfl rfl (hb hby d2_44)
  have F30 := f29.same W30
  have K31 : Keep h0 h30 [a1] := K27.wr W30 (Or.inl (List.mem_of_getElem? (i := 0) rfl))
  have N30 := Fr.snoc X30 N26 pG_a1
  refine own_st st30 ?_
  show own_Go p e below T30 (mkF m 47 #[.val (.ref a1)] []) _
  have f32 := ((((((((F2.other W6 (Or.inr (slot_ne (Or.inl (hw _ (List.mem_of_getElem? (i := 17) rfl))) (Or.inl (hw _ (List.mem_of_getElem? (i := 20) rfl))) (by decide) (t := .double) (t' := .double) (by decide) (by decide)))).other W10 (Or.inr (slot_ne (Or.inl (hw _ (List.mem_of_getElem? (i := 17) rfl))) (Or.inl (hw _ (List.mem_of_getElem? (i := 23) rfl))) (by decide) (t := .double) (t' := .double) (by decide) (by decide)))).ext E13).keep Kq16 (ninS (Nat.ne_of_lt (Nat.lt_of_lt_of_le (f8.wr W10).lt (Nat.le_of_eq g13.symm))) nin0)).other W20 (Or.inr (slot_ne (Or.inl (hw _ (List.mem_of_getElem? (i := 17) rfl))) (Or.inr (hw _ (List.mem_of_getElem? (i := 51) rfl))) (by decide) (t := .double) (t' := (.object "java/util/Map")) (by decide) (by decide)))).ext E23).keep Kq26 (ninS (Nat.ne_of_lt (Nat.lt_of_lt_of_le (f18.wr W20).lt (Nat.le_of_eq g23.symm))) nin0)).other W30 (Or.inr (slot_ne (Or.inl (hw _ (List.mem_of_getElem? (i := 17) rfl))) (Or.inr (hw _ (List.mem_of_getElem? (i := 53) rfl))) (by decide) (t := .double) (t' := (.object "java/util/Map")) (by decide) (by decide))))
  have f33 := (((((((F6.other W10 (Or.inr (slot_ne (Or.inl (hw _ (List.mem_of_getElem? (i := 20) rfl))) (Or.inl (hw _ (List.mem_of_getElem? (i := 23) rfl))) (by decide) (t := .double) (t' := .double) (by decide) (by decide)))).ext E13).keep Kq16 (ninS (Nat.ne_of_lt (Nat.lt_of_lt_of_le (f8.wr W10).lt (Nat.le_of_eq g13.symm))) nin0)).other W20 (Or.inr (slot_ne (Or.inl (hw _ (List.mem_of_getElem? (i := 20) rfl))) (Or.inr (hw _ (List.mem_of_getElem? (i := 51) rfl))) (by decide) (t := .double) (t' := (.object "java/util/Map")) (by decide) (by decide)))).ext E23).keep Kq26 (ninS (Nat.ne_of_lt (Nat.lt_of_lt_of_le (f18.wr W20).lt (Nat.le_of_eq g23.symm))) nin0)).other W30 (Or.inr (slot_ne (Or.inl (hw _ (List.mem_of_getElem? (i := 20) rfl))) (Or.inr (hw _ (List.mem_of_getElem? (i := 53) rfl))) (by decide) (t := .double) (t' := (.object "java/util/Map")) (by decide) (by decide))))
  have f34 := ((((((F10.ext E13).keep Kq16 (ninS (Nat.ne_of_lt (Nat.lt_of_lt_of_le (f8.wr W10).lt (Nat.le_of_eq g13.symm))) nin0)).other W20 (Or.inr (slot_ne (Or.inl (hw _ (List.mem_of_getElem? (i := 23) rfl))) (Or.inr (hw _ (List.mem_of_getElem? (i := 51) rfl))) (by decide) (t := .double) (t' := (.object "java/util/Map")) (by decide) (by decide)))).ext E23).keep Kq26 (ninS (Nat.ne_of_lt (Nat.lt_of_lt_of_le (f18.wr W20).lt (Nat.le_of_eq g23.symm))) nin0)).other W30 (Or.inr (slot_ne (Or.inl (hw _ (List.mem_of_getElem? (i := 23) rfl))) (Or.inr (hw _ (List.mem_of_getElem? (i := 53) rfl))) (by decide) (t := .double) (t' := (.object "java/util/Map")) (by decide) (by decide))))
  obtain ⟨fs, hr, hrun, hended, hW, hsame⟩ := X30.leave (v := none) (fun _ => rfl)
  refine own_fin (X30.returnOut hx Bd.returns (hb hby d2_47) hr) ⟨hrun, hended, _, _, rfl, ?_, ⟨_, rfl⟩, hW, hsame.mono (by decide) (by decide)⟩
  show Q_rmNW Z a1 u0 u1 u2 u3 u4 h0 n0 _ T30.heap _
  rw [e30]
  exact ⟨rfl, N30, K31, f32, f33, f34⟩
theorem d1_0 : decode method_2_code 0 = .ok (.iload_n 0, 1) := by decide +kernel
theorem d1_1 : decode method_2_code 1 = .ok (.ldc 7, 2) := by decide +kernel
theorem d1_3 : decode method_2_code 3 = .ok (.iand, 1) := by decide +kernel
theorem d1_4 : decode method_2_code 4 = .ok (.iconst 1, 1) := by decide +kernel
theorem d1_5 : decode method_2_code 5 = .ok (.iadd, 1) := by decide +kernel
theorem d1_6 : decode method_2_code 6 = .ok (.i2d, 1) := by decide +kernel
theorem d1_7 : decode method_2_code 7 = .ok (.ldc2_w 8, 3) := by decide +kernel
theorem d1_10 : decode method_2_code 10 = .ok (.ddiv, 1) := by decide +kernel
theorem d1_11 : decode method_2_code 11 = .ok (.dreturn, 1) := by decide +kernel
theorem pn_1 : plainName "com/example/spillback/spillback/model/NetworkSetLinkParametersPinLaw" = true := by first | (simp [plainName, overriddenIn]; done) | decide +kernel
theorem ef_rmPos (m : MethodId) (x0 : Int32) : entryFrame m #[(.int x0)] 1 = mkF m 0 #[.val (.int x0)] [] := by first | (simp [entryFrame, mkF, argsToLocals, Value.category]; done) | rfl
def Q_rmPos (Z : State) (x : Int32) (h0 : Heap) (n0 : Nat) (v : Option Value) (h : Heap) (L : List Loc) : Prop := v = some (.double (own_pos x)) ∧ Fr n0 L ∧ h = h0
set_option maxRecDepth 65536 in
set_option maxHeartbeats 40000000 in
theorem rmPos (l : Launch) (Z : State) (a0 : Array Value) (hw : ∀ d ∈ tables_1, d.before a0 Z = true) (ws : List Jvm.Cond) (x : Int32) (h0 : Heap) (n0 : Nat) (Z0 : n0 ≤ h0.size) :
    MetFree l (⟨"com/example/spillback/spillback/model/NetworkSetLinkParametersPinLaw", "pos", "(I)D"⟩ : MethodName) (head1 (Jvm.Cond.code (⟨"com/example/spillback/spillback/model/NetworkSetLinkParametersPinLaw", "pos", "(I)D"⟩ : MethodName) method_2_code 1 (some .double) :: ws) ({ frames := 0, cells := 0, slots := 0, locals := 0 } : Room)) (fun a U => a = #[(.int x)] ∧ Z.Warmed39 U.vm ∧ U.heap = h0) (fun _ _ _ _ _ => True) (fun _ U o U' => ∃ v L, o = .returned v ∧ Q_rmPos Z x h0 n0 v U'.heap L ∧ FrameEnd U o U' L ({ frames := 0, cells := 0, slots := 0, locals := 0 } : Room).cells ({ frames := 0, cells := 0, slots := 0, locals := 0 } : Room).slots) := by
  refine MetFree.of_bodySF (plainFor_of_name pn_1) hisR ?_
  intro p e s m args below meth c s₁ Bd hml0 hP hK
  obtain ⟨rfl, hZ, hh⟩ := hP
  have hx := Bd.exec
  have hby := Bd.bytes
  have hml : c.maxLocals = 1 := hml0
  have hown : s.vm.findClass "com/example/spillback/spillback/model/NetworkSetLinkParametersPinLaw" = some m.cls := findClass_of_methodNamed Bd.named
  have hnm := (name_of_methodNamed Bd.named Bd.method).1
  have X0 : Stand p l e ({ frames := 0, cells := 0, slots := 0, locals := 0 } : Room) s m #[(.int x)] below meth c s₁ [] 0 0 := Stand.of_body Bd
  have e0 : s₁.heap = h0 := by rw [← hh, Bd.state]; rfl
  have N0 := Fr.nil n0
  refine own_enter (ef_rmPos m x) ?_
  refine own_st (fun t_ k_ => XS.iloadN X0.here hx rfl (hb hby d1_0) rfl k_) ?_
  show own_Go p e below s₁ (mkF m 1 #[.val (.int x)] [(.int x)]) _
  refine own_st (fun t_ k_ => X0.ldcInt hx hown (mvT hZ (hw _ (List.mem_of_getElem? (i := 4) rfl))) (g := (mkF m 1 #[.val (.int x)] [(.int x)])) rfl (hb hby d1_1) _ k_) ?_
  show own_Go p e below s₁ (mkF m 3 #[.val (.int x)] [(.int (268435455 : Int32)), (.int x)]) _
  refine own_st (fun t_ k_ => XS.iand X0.here hx rfl (hb hby d1_3) rfl k_) ?_
  show own_Go p e below s₁ (mkF m 4 #[.val (.int x)] [(.int (x &&& (268435455 : Int32)))]) _
  refine own_st (fun t_ k_ => XS.iconst X0.here hx rfl (hb hby d1_4) k_) ?_
  show own_Go p e below s₁ (mkF m 5 #[.val (.int x)] [(.int (1 : Int32)), (.int (x &&& (268435455 : Int32)))]) _
  refine own_st (fun t_ k_ => XS.iadd X0.here hx rfl (hb hby d1_5) rfl k_) ?_
  show own_Go p e below s₁ (mkF m 6 #[.val (.int x)] [(.int ((x &&& (268435455 : Int32)) + (1 : Int32)))]) _
  refine own_st (fun t_ k_ => XS.i2dS X0.here hx rfl (hb hby d1_6) rfl rfl k_) ?_
  show own_Go p e below s₁ (mkF m 7 #[.val (.int x)] [(.double (FP.i2d ((x &&& (268435455 : Int32)) + (1 : Int32))))]) _
  refine own_st (fun t_ k_ => X0.ldc2DoubleC hx hown (mvT hZ (hw _ (List.mem_of_getElem? (i := 5) rfl))) (g := (mkF m 7 #[.val (.int x)] [(.double (FP.i2d ((x &&& (268435455 : Int32)) + (1 : Int32))))])) rfl (hb hby d1_7) _ k_) ?_
  show own_Go p e below s₁ (mkF m 10 #[.val (.int x)] [(.double (4616189618054758400 : UInt64)), (.double (FP.i2d ((x &&& (268435455 : Int32)) + (1 : Int32))))]) _
  refine own_st (fun t_ k_ => XS.ddivS X0.here hx rfl (hb hby d1_10) rfl (own_pos_nn x) rfl k_) ?_
  show own_Go p e below s₁ (mkF m 11 #[.val (.int x)] [(.double (FP.ddiv (FP.i2d ((x &&& (268435455 : Int32)) + (1 : Int32))) (4616189618054758400 : UInt64)))]) _
  show own_Go p e below s₁ (mkF m 11 #[.val (.int x)] [(.double (own_pos x))]) _
  obtain ⟨fs, hr, hrun, hended, hW, hsame⟩ := X0.leave (v := some (.double (own_pos x))) (fun h => by rw [Bd.returns] at h; cases h)
  refine own_fin (own_retD X0 hx Bd.returns (hb hby d1_11) hr) ⟨hrun, hended, _, _, rfl, ?_, ⟨_, rfl⟩, hW, hsame.mono (by decide) (by decide)⟩
  show Q_rmPos Z x h0 n0 _ s₁.heap _
  rw [e0]
  exact ⟨rfl, N0, rfl⟩
theorem d7_0 : decode prog_73_method_2_code 0 = .ok (.dload_n 1, 1) := by decide +kernel
theorem d7_1 : decode prog_73_method_2_code 1 = .ok (.dconst 0, 1) := by decide +kernel
theorem d7_2 : decode prog_73_method_2_code 2 = .ok (.dcmp .l, 1) := by decide +kernel
theorem d7_3 : decode prog_73_method_2_code 3 = .ok (.ifCond .le 16, 3) := by decide +kernel
theorem d7_6 : decode prog_73_method_2_code 6 = .ok (.dload_n 3, 1) := by decide +kernel
theorem d7_7 : decode prog_73_method_2_code 7 = .ok (.dconst 0, 1) := by decide +kernel
theorem d7_8 : decode prog_73_method_2_code 8 = .ok (.dcmp .l, 1) := by decide +kernel
theorem d7_9 : decode prog_73_method_2_code 9 = .ok (.ifCond .le 10, 3) := by decide +kernel
theorem d7_12 : decode prog_73_method_2_code 12 = .ok (.dload 5, 2) := by decide +kernel
theorem d7_14 : decode prog_73_method_2_code 14 = .ok (.dconst 0, 1) := by decide +kernel
theorem d7_15 : decode prog_73_method_2_code 15 = .ok (.dcmp .l, 1) := by decide +kernel
theorem d7_16 : decode prog_73_method_2_code 16 = .ok (.ifCond .gt 13, 3) := by decide +kernel
theorem d7_29 : decode prog_73_method_2_code 29 = .ok (.aload_n 0, 1) := by decide +kernel
theorem d7_30 : decode prog_73_method_2_code 30 = .ok (.dload_n 1, 1) := by decide +kernel
theorem d7_31 : decode prog_73_method_2_code 31 = .ok (.putfield 9, 3) := by decide +kernel
theorem d7_34 : decode prog_73_method_2_code 34 = .ok (.aload_n 0, 1) := by decide +kernel
theorem d7_35 : decode prog_73_method_2_code 35 = .ok (.dload_n 3, 1) := by decide +kernel
theorem d7_36 : decode prog_73_method_2_code 36 = .ok (.putfield 17, 3) := by decide +kernel
theorem d7_39 : decode prog_73_method_2_code 39 = .ok (.aload_n 0, 1) := by decide +kernel
theorem d7_40 : decode prog_73_method_2_code 40 = .ok (.dload 5, 2) := by decide +kernel
theorem d7_42 : decode prog_73_method_2_code 42 = .ok (.putfield 22, 3) := by decide +kernel
theorem d7_45 : decode prog_73_method_2_code 45 = .ok (.return_, 1) := by decide +kernel
theorem pn_7 : plainName "com/example/spillback/spillback/model/Network" = true := by first | (simp [plainName, overriddenIn]; done) | decide +kernel
theorem ef_rmSL (m : MethodId) (x0 : Addr) (x1 : UInt64) (x2 : UInt64) (x3 : UInt64) : entryFrame m #[(.ref x0), (.double x1), (.double x2), (.double x3)] 7 = mkF m 0 #[.val (.ref x0), .val (.double x1), .second, .val (.double x2), .second, .val (.double x3), .second] [] := by first | (simp [entryFrame, mkF, argsToLocals, Value.category]; done) | rfl
def Q_rmSL (Z : State) (a1 : Addr) (x : Int32) (y : Int32) (z : Int32) (u0 : UInt64) (u1 : UInt64) (u2 : UInt64) (h0 : Heap) (n0 : Nat) (v : Option Value) (h : Heap) (L : List Loc) : Prop := v = none ∧ Fr n0 L ∧ Keep h0 h [a1] ∧ Fld Z h a1 "com/example/spillback/spillback/model/Network" "capacityPeriod" "D" (.double (own_pos x)) ∧ Fld Z h a1 "com/example/spillback/spillback/model/Network" "effectiveCellSize" "D" (.double (own_pos y)) ∧ Fld Z h a1 "com/example/spillback/spillback/model/Network" "effectiveLaneWidth" "D" (.double (own_pos z))
set_option maxRecDepth 65536 in
set_option maxHeartbeats 40000000 in
theorem rmSL (l : Launch) (Z : State) (a0 : Array Value) (hw : ∀ d ∈ tables_1, d.before a0 Z = true) (ws : List Jvm.Cond) (a1 : Addr) (x : Int32) (y : Int32) (z : Int32) (u0 : UInt64) (u1 : UInt64) (u2 : UInt64) (h0 : Heap) (n0 : Nat) (Z0 : n0 ≤ h0.size) (pE_a1 : Exa Z h0 a1 "com/example/spillback/spillback/model/Network") (pF_capacityPeriod_a1 : Fld Z h0 a1 "com/example/spillback/spillback/model/Network" "capacityPeriod" "D" (.double u0)) (pF_effectiveCellSize_a1 : Fld Z h0 a1 "com/example/spillback/spillback/model/Network" "effectiveCellSize" "D" (.double u1)) (pF_effectiveLaneWidth_a1 : Fld Z h0 a1 "com/example/spillback/spillback/model/Network" "effectiveLaneWidth" "D" (.double u2)) (pG_a1 : n0 ≤ a1) :
    MetFree l (⟨"com/example/spillback/spillback/model/Network", "setLinkParameters", "(DDD)V"⟩ : MethodName) (head1 (Jvm.Cond.code (⟨"com/example/spillback/spillback/model/Network", "setLinkParameters", "(DDD)V"⟩ : MethodName) prog_73_method_2_code 7 none :: ws) ({ frames := 0, cells := 0, slots := 0, locals := 0 } : Room)) (fun a U => a = #[(.ref a1), (.double (own_pos x)), (.double (own_pos y)), (.double (own_pos z))] ∧ Z.Warmed39 U.vm ∧ U.heap = h0) (fun _ _ _ _ _ => True) (fun _ U o U' => ∃ v L, o = .returned v ∧ Q_rmSL Z a1 x y z u0 u1 u2 h0 n0 v U'.heap L ∧ FrameEnd U o U' L ({ frames := 0, cells := 0, slots := 0, locals := 0 } : Room).cells ({ frames := 0, cells := 0, slots := 0, locals := 0 } : Room).slots) := by
  refine MetFree.of_bodySF (plainFor_of_name pn_7) hisR ?_
  intro p e s m args below meth c s₁ Bd hml0 hP hK
  obtain ⟨rfl, hZ, hh⟩ := hP
  have hx := Bd.exec
  have hby := Bd.bytes
  have hml : c.maxLocals = 7 := hml0
  have hown : s.vm.findClass "com/example/spillback/spillback/model/Network" = some m.cls := findClass_of_methodNamed Bd.named
  have hnm := (name_of_methodNamed Bd.named Bd.method).1
  have X0 : Stand p l e ({ frames := 0, cells := 0, slots := 0, locals := 0 } : Room) s m #[(.ref a1), (.double (own_pos x)), (.double (own_pos y)), (.double (own_pos z))] below meth c s₁ [] 0 0 := Stand.of_body Bd
  have e0 : s₁.heap = h0 := by rw [← hh, Bd.state]; rfl
  have N0 := Fr.nil n0
  refine own_enter (ef_rmSL m a1 ((own_pos x)) ((own_pos y)) ((own_pos z))) ?_
  refine own_st (fun t_ k_ => XS.dloadN X0.here hx rfl (hb hby d7_0) rfl k_) ?_
  show own_Go p e below s₁ (mkF m 1 #[.val (.ref a1), .val (.double (own_pos x)), .second, .val (.double (own_pos y)), .second, .val (.double (own_pos z)), .second] [(.double (own_pos x))]) _
  refine own_st (fun t_ k_ => XS.dconst0 X0.here hx rfl (hb hby d7_1) rfl k_) ?_
  show own_Go p e below s₁ (mkF m 2 #[.val (.ref a1), .val (.double (own_pos x)), .second, .val (.double (own_pos y)), .second, .val (.double (own_pos z)), .second] [(.double FP.dconst0), (.double (own_pos x))]) _
  refine own_st (fun t_ k_ => XS.dcmpS X0.here hx rfl (hb hby d7_2) rfl (own_pos_gt x) k_) ?_
  show own_Go p e below s₁ (mkF m 3 #[.val (.ref a1), .val (.double (own_pos x)), .second, .val (.double (own_pos y)), .second, .val (.double (own_pos z)), .second] [(.int (1 : Int32))]) _
  refine own_st (fun t_ k_ => XS.ifNo X0.here hx rfl (hb hby d7_3) rfl (by decide) k_) ?_
  show own_Go p e below s₁ (mkF m 6 #[.val (.ref a1), .val (.double (own_pos x)), .second, .val (.double (own_pos y)), .second, .val (.double (own_pos z)), .second] []) _
  refine own_st (fun t_ k_ => XS.dloadN X0.here hx rfl (hb hby d7_6) rfl k_) ?_
  show own_Go p e below s₁ (mkF m 7 #[.val (.ref a1), .val (.double (own_pos x)), .second, .val (.double (own_pos y)), .second, .val (.double (own_pos z)), .second] [(.double (own_pos y))]) _
  refine own_st (fun t_ k_ => XS.dconst0 X0.here hx rfl (hb hby d7_7) rfl k_) ?_
  show own_Go p e below s₁ (mkF m 8 #[.val (.ref a1), .val (.double (own_pos x)), .second, .val (.double (own_pos y)), .second, .val (.double (own_pos z)), .second] [(.double FP.dconst0), (.double (own_pos y))]) _
  refine own_st (fun t_ k_ => XS.dcmpS X0.here hx rfl (hb hby d7_8) rfl (own_pos_gt y) k_) ?_
  show own_Go p e below s₁ (mkF m 9 #[.val (.ref a1), .val (.double (own_pos x)), .second, .val (.double (own_pos y)), .second, .val (.double (own_pos z)), .second] [(.int (1 : Int32))]) _
  refine own_st (fun t_ k_ => XS.ifNo X0.here hx rfl (hb hby d7_9) rfl (by decide) k_) ?_
  show own_Go p e below s₁ (mkF m 12 #[.val (.ref a1), .val (.double (own_pos x)), .second, .val (.double (own_pos y)), .second, .val (.double (own_pos z)), .second] []) _
  refine own_st (fun t_ k_ => XS.dload X0.here hx rfl (hb hby d7_12) rfl k_) ?_
  show own_Go p e below s₁ (mkF m 14 #[.val (.ref a1), .val (.double (own_pos x)), .second, .val (.double (own_pos y)), .second, .val (.double (own_pos z)), .second] [(.double (own_pos z))]) _
  refine own_st (fun t_ k_ => XS.dconst0 X0.here hx rfl (hb hby d7_14) rfl k_) ?_
  show own_Go p e below s₁ (mkF m 15 #[.val (.ref a1), .val (.double (own_pos x)), .second, .val (.double (own_pos y)), .second, .val (.double (own_pos z)), .second] [(.double FP.dconst0), (.double (own_pos z))]) _
  refine own_st (fun t_ k_ => XS.dcmpS X0.here hx rfl (hb hby d7_15) rfl (own_pos_gt z) k_) ?_
  show own_Go p e below s₁ (mkF m 16 #[.val (.ref a1), .val (.double (own_pos x)), .second, .val (.double (own_pos y)), .second, .val (.double (own_pos z)), .second] [(.int (1 : Int32))]) _
  refine own_st (fun t_ k_ => XS.ifYes X0.here hx rfl (pc0 := 16) (pc' := 29) rfl (hb hby d7_16) rfl (by decide) (by decide) (by decide) k_) ?_
  show own_Go p e below s₁ (mkF m 29 #[.val (.ref a1), .val (.double (own_pos x)), .second, .val (.double (own_pos y)), .second, .val (.double (own_pos z)), .second] []) _
  refine own_st (fun t_ k_ => XS.aloadN X0.here hx rfl (hb hby d7_29) rfl rfl k_) ?_
  show own_Go p e below s₁ (mkF m 30 #[.val (.ref a1), .val (.double (own_pos x)), .second, .val (.double (own_pos y)), .second, .val (.double (own_pos z)), .second] [(.ref a1)]) _
  refine own_st (fun t_ k_ => XS.dloadN X0.here hx rfl (hb hby d7_30) rfl k_) ?_
  show own_Go p e below s₁ (mkF m 31 #[.val (.ref a1), .val (.double (own_pos x)), .second, .val (.double (own_pos y)), .second, .val (.double (own_pos z)), .second] [(.double (own_pos x)), (.ref a1)]) _
  obtain ⟨T1, h1, X1, e1, W1, st1⟩ := putF X0 hx hZ hown (host := "") (Or.inl (hw _ (List.mem_of_getElem? (i := 16) rfl))) Via.refl e0 pF_capacityPeriod_a1 pE_a1 (Or.inl (hw _ (List.mem_of_getElem? (i := 17) rfl))) (hw _ (List.mem_of_getElem? (i := 7) rfl)) (ty := .double) (by decide) rfl rfl (g := (mkF m 31 #[.val (.ref a1), .val (.double (own_pos x)), .second, .val (.double (own_pos y)), .second, .val (.double (own_pos z)), .second] [(.double (own_pos x)), (.ref a1)])) rfl rfl (hb hby d7_31)
  have F1 := pF_capacityPeriod_a1.same W1
  have K2 : Keep h0 h1 [a1] := (Keep.refl h0 [a1]).wr W1 (Or.inl (List.mem_of_getElem? (i := 0) rfl))
  have N1 := Fr.snoc X1 N0 pG_a1
  refine own_st st1 ?_
  show own_Go p e below T1 (mkF m 34 #[.val (.ref a1), .val (.double (own_pos x)), .second, .val (.double (own_pos y)), .second, .val (.double (own_pos z)), .second] []) _
  refine own_st (fun t_ k_ => XS.aloadN X1.here hx rfl (hb hby d7_34) rfl rfl k_) ?_
  show own_Go p e below T1 (mkF m 35 #[.val (.ref a1), .val (.double (own_pos x)), .second, .val (.double (own_pos y)), .second, .val (.double (own_pos z)), .second] [(.ref a1)]) _
  refine own_st (fun t_ k_ => XS.dloadN X1.here hx rfl (hb hby d7_35) rfl k_) ?_
  show own_Go p e below T1 (mkF m 36 #[.val (.ref a1), .val (.double (own_pos x)), .second, .val (.double (own_pos y)), .second, .val (.double (own_pos z)), .second] [(.double (own_pos y)), (.ref a1)]) _
  have f3 := (pE_a1.wr W1)
  have f4 := (pF_effectiveCellSize_a1.other W1 (Or.inr (slot_ne (Or.inl (hw _ (List.mem_of_getElem? (i := 20) rfl))) (Or.inl (hw _ (List.mem_of_getElem? (i := 17) rfl))) (by decide) (t := .double) (t' := .double) (by decide) (by decide))))
  obtain ⟨T5, h5, X5, e5, W5, st5⟩ := putF X1 hx hZ hown (host := "") (Or.inl (hw _ (List.mem_of_getElem? (i := 19) rfl))) Via.refl e1 f4 f3 (Or.inl (hw _ (List.mem_of_getElem? (i := 20) rfl))) (hw _ (List.mem_of_getElem? (i := 7) rfl)) (ty := .double) (by decide) rfl rfl (g := (mkF m 36 #[.val (.ref a1), .val (.double (own_pos x)), .second, .val (.double (own_pos y)), .second, .val (.double (own_pos z)), .second] [(.double (own_pos y)), (.ref a1)])) rfl rfl (hb hby d7_36)
  have F5 := f4.same W5
  have K6 : Keep h0 h5 [a1] := K2.wr W5 (Or.inl (List.mem_of_getElem? (i := 0) rfl))
  have N5 := Fr.snoc X5 N1 pG_a1
  refine own_st st5 ?_
  show own_Go p e below T5 (mkF m 39 #[.val (.ref a1), .val (.double (own_pos x)), .second, .val (.double (own_pos y)), .second, .val (.double (own_pos z)), .second] []) _
  refine own_st (fun t_ k_ => XS.aloadN X5.here hx rfl (hb hby d7_39) rfl rfl k_) ?_
  show own_Go p e below T5 (mkF m 40 #[.val (.ref a1), .val (.double (own_pos x)), .second, .val (.double (own_pos y)), .second, .val (.double (own_pos z)), .second] [(.ref a1)]) _
  refine own_st (fun t_ k_ => XS.dload X5.here hx rfl (hb hby d7_40) rfl k_) ?_
  show own_Go p e below T5 (mkF m 42 #[.val (.ref a1), .val (.double (own_pos x)), .second, .val (.double (own_pos y)), .second, .val (.double (own_pos z)), .second] [(.double (own_pos z)), (.ref a1)]) _
  have f7 := (f3.wr W5)
  have f8 := ((pF_effectiveLaneWidth_a1.other W1 (Or.inr (slot_ne (Or.inl (hw _ (List.mem_of_getElem? (i := 23) rfl))) (Or.inl (hw _ (List.mem_of_getElem? (i := 17) rfl))) (by decide) (t := .double) (t' := .double) (by decide) (by decide)))).other W5 (Or.inr (slot_ne (Or.inl (hw _ (List.mem_of_getElem? (i := 23) rfl))) (Or.inl (hw _ (List.mem_of_getElem? (i := 20) rfl))) (by decide) (t := .double) (t' := .double) (by decide) (by decide))))
  obtain ⟨T9, h9, X9, e9, W9, st9⟩ := putF X5 hx hZ hown (host := "") (Or.inl (hw _ (List.mem_of_getElem? (i := 22) rfl))) Via.refl e5 f8 f7 (Or.inl (hw _ (List.mem_of_getElem? (i := 23) rfl))) (hw _ (List.mem_of_getElem? (i := 7) rfl)) (ty := .double) (by decide) rfl rfl (g := (mkF m 42 #[.val (.ref a1), .val (.double (own_pos x)), .second, .val (.double (own_pos y)), .second, .val (.double (own_pos z)), .second] [(.double (own_pos z)), (.ref a1)])) rfl rfl (hb hby d7_42)
  have F9 := f8.same W9
  have K10 : Keep h0 h9 [a1] := K6.wr W9 (Or.inl (List.mem_of_getElem? (i := 0) rfl))
  have N9 := Fr.snoc X9 N5 pG_a1
  refine own_st st9 ?_
  show own_Go p e below T9 (mkF m 45 #[.val (.ref a1), .val (.double (own_pos x)), .second, .val (.double (own_pos y)), .second, .val (.double (own_pos z)), .second] []) _
  have f11 := ((F1.other W5 (Or.inr (slot_ne (Or.inl (hw _ (List.mem_of_getElem? (i := 17) rfl))) (Or.inl (hw _ (List.mem_of_getElem? (i := 20) rfl))) (by decide) (t := .double) (t' := .double) (by decide) (by decide)))).other W9 (Or.inr (slot_ne (Or.inl (hw _ (List.mem_of_getElem? (i := 17) rfl))) (Or.inl (hw _ (List.mem_of_getElem? (i := 23) rfl))) (by decide) (t := .double) (t' := .double) (by decide) (by decide))))
  have f12 := (F5.other W9 (Or.inr (slot_ne (Or.inl (hw _ (List.mem_of_getElem? (i := 20) rfl))) (Or.inl (hw _ (List.mem_of_getElem? (i := 23) rfl))) (by decide) (t := .double) (t' := .double) (by decide) (by decide))))
  obtain ⟨fs, hr, hrun, hended, hW, hsame⟩ := X9.leave (v := none) (fun _ => rfl)
  refine own_fin (X9.returnOut hx Bd.returns (hb hby d7_45) hr) ⟨hrun, hended, _, _, rfl, ?_, ⟨_, rfl⟩, hW, hsame.mono (by decide) (by decide)⟩
  show Q_rmSL Z a1 x y z u0 u1 u2 h0 n0 _ T9.heap _
  rw [e9]
  exact ⟨rfl, N9, K10, f11, f12, F9⟩
theorem d8_0 : decode prog_73_method_3_code 0 = .ok (.aload_n 0, 1) := by decide +kernel
theorem d8_1 : decode prog_73_method_3_code 1 = .ok (.getfield 9, 3) := by decide +kernel
theorem d8_4 : decode prog_73_method_3_code 4 = .ok (.dreturn, 1) := by decide +kernel
theorem pn_8 : plainName "com/example/spillback/spillback/model/Network" = true := by first | (simp [plainName, overriddenIn]; done) | decide +kernel
theorem ef_rm_capacityPeriod (m : MethodId) (x0 : Addr) : entryFrame m #[(.ref x0)] 1 = mkF m 0 #[.val (.ref x0)] [] := by first | (simp [entryFrame, mkF, argsToLocals, Value.category]; done) | rfl
def Q_rm_capacityPeriod (Z : State) (a1 : Addr) (u : UInt64) (h0 : Heap) (n0 : Nat) (v : Option Value) (h : Heap) (L : List Loc) : Prop := v = some (.double u) ∧ Fr n0 L ∧ h = h0
set_option maxRecDepth 65536 in
set_option maxHeartbeats 40000000 in
theorem rm_capacityPeriod (l : Launch) (Z : State) (a0 : Array Value) (hw : ∀ d ∈ tables_1, d.before a0 Z = true) (ws : List Jvm.Cond) (a1 : Addr) (u : UInt64) (h0 : Heap) (n0 : Nat) (Z0 : n0 ≤ h0.size) (pF_capacityPeriod_a1 : Fld Z h0 a1 "com/example/spillback/spillback/model/Network" "capacityPeriod" "D" (.double u)) :
    MetFree l (⟨"com/example/spillback/spillback/model/Network", "capacityPeriod", "()D"⟩ : MethodName) (head1 (Jvm.Cond.code (⟨"com/example/spillback/spillback/model/Network", "capacityPeriod", "()D"⟩ : MethodName) prog_73_method_3_code 1 (some .double) :: ws) ({ frames := 0, cells := 0, slots := 0, locals := 0 } : Room)) (fun a U => a = #[(.ref a1)] ∧ Z.Warmed39 U.vm ∧ U.heap = h0) (fun _ _ _ _ _ => True) (fun _ U o U' => ∃ v L, o = .returned v ∧ Q_rm_capacityPeriod Z a1 u h0 n0 v U'.heap L ∧ FrameEnd U o U' L ({ frames := 0, cells := 0, slots := 0, locals := 0 } : Room).cells ({ frames := 0, cells := 0, slots := 0, locals := 0 } : Room).slots) := by
  refine MetFree.of_bodySF (plainFor_of_name pn_8) hisR ?_
  intro p e s m args below meth c s₁ Bd hml0 hP hK
  obtain ⟨rfl, hZ, hh⟩ := hP
  have hx := Bd.exec
  have hby := Bd.bytes
  have hml : c.maxLocals = 1 := hml0
  have hown : s.vm.findClass "com/example/spillback/spillback/model/Network" = some m.cls := findClass_of_methodNamed Bd.named
  have hnm := (name_of_methodNamed Bd.named Bd.method).1
  have X0 : Stand p l e ({ frames := 0, cells := 0, slots := 0, locals := 0 } : Room) s m #[(.ref a1)] below meth c s₁ [] 0 0 := Stand.of_body Bd
  have e0 : s₁.heap = h0 := by rw [← hh, Bd.state]; rfl
  have N0 := Fr.nil n0
  refine own_enter (ef_rm_capacityPeriod m a1) ?_
  refine own_st (fun t_ k_ => XS.aloadN X0.here hx rfl (hb hby d8_0) rfl rfl k_) ?_
  show own_Go p e below s₁ (mkF m 1 #[.val (.ref a1)] [(.ref a1)]) _
  obtain ⟨T1, X1, e1, st1⟩ := getF X0 hx hZ hown (host := "") (Or.inl (hw _ (List.mem_of_getElem? (i := 16) rfl))) Via.refl e0 pF_capacityPeriod_a1 (g := (mkF m 1 #[.val (.ref a1)] [(.ref a1)])) rfl rfl (hb hby d8_1)
  refine own_st st1 ?_
  show own_Go p e below T1 (mkF m 4 #[.val (.ref a1)] [(.double u)]) _
  obtain ⟨fs, hr, hrun, hended, hW, hsame⟩ := X1.leave (v := some (.double u)) (fun h => by rw [Bd.returns] at h; cases h)
  refine own_fin (own_retD X1 hx Bd.returns (hb hby d8_4) hr) ⟨hrun, hended, _, _, rfl, ?_, ⟨_, rfl⟩, hW, hsame.mono (by decide) (by decide)⟩
  show Q_rm_capacityPeriod Z a1 u h0 n0 _ T1.heap _
  rw [e1]
  exact ⟨rfl, N0, rfl⟩
theorem d9_0 : decode prog_73_method_4_code 0 = .ok (.aload_n 0, 1) := by decide +kernel
theorem d9_1 : decode prog_73_method_4_code 1 = .ok (.getfield 17, 3) := by decide +kernel
theorem d9_4 : decode prog_73_method_4_code 4 = .ok (.dreturn, 1) := by decide +kernel
theorem pn_9 : plainName "com/example/spillback/spillback/model/Network" = true := by first | (simp [plainName, overriddenIn]; done) | decide +kernel
theorem ef_rm_effectiveCellSize (m : MethodId) (x0 : Addr) : entryFrame m #[(.ref x0)] 1 = mkF m 0 #[.val (.ref x0)] [] := by first | (simp [entryFrame, mkF, argsToLocals, Value.category]; done) | rfl
def Q_rm_effectiveCellSize (Z : State) (a1 : Addr) (u : UInt64) (h0 : Heap) (n0 : Nat) (v : Option Value) (h : Heap) (L : List Loc) : Prop := v = some (.double u) ∧ Fr n0 L ∧ h = h0
set_option maxRecDepth 65536 in
set_option maxHeartbeats 40000000 in
theorem rm_effectiveCellSize (l : Launch) (Z : State) (a0 : Array Value) (hw : ∀ d ∈ tables_1, d.before a0 Z = true) (ws : List Jvm.Cond) (a1 : Addr) (u : UInt64) (h0 : Heap) (n0 : Nat) (Z0 : n0 ≤ h0.size) (pF_effectiveCellSize_a1 : Fld Z h0 a1 "com/example/spillback/spillback/model/Network" "effectiveCellSize" "D" (.double u)) :
    MetFree l (⟨"com/example/spillback/spillback/model/Network", "effectiveCellSize", "()D"⟩ : MethodName) (head1 (Jvm.Cond.code (⟨"com/example/spillback/spillback/model/Network", "effectiveCellSize", "()D"⟩ : MethodName) prog_73_method_4_code 1 (some .double) :: ws) ({ frames := 0, cells := 0, slots := 0, locals := 0 } : Room)) (fun a U => a = #[(.ref a1)] ∧ Z.Warmed39 U.vm ∧ U.heap = h0) (fun _ _ _ _ _ => True) (fun _ U o U' => ∃ v L, o = .returned v ∧ Q_rm_effectiveCellSize Z a1 u h0 n0 v U'.heap L ∧ FrameEnd U o U' L ({ frames := 0, cells := 0, slots := 0, locals := 0 } : Room).cells ({ frames := 0, cells := 0, slots := 0, locals := 0 } : Room).slots) := by
  refine MetFree.of_bodySF (plainFor_of_name pn_9) hisR ?_
  intro p e s m args below meth c s₁ Bd hml0 hP hK
  obtain ⟨rfl, hZ, hh⟩ := hP
  have hx := Bd.exec
  have hby := Bd.bytes
  have hml : c.maxLocals = 1 := hml0
  have hown : s.vm.findClass "com/example/spillback/spillback/model/Network" = some m.cls := findClass_of_methodNamed Bd.named
  have hnm := (name_of_methodNamed Bd.named Bd.method).1
  have X0 : Stand p l e ({ frames := 0, cells := 0, slots := 0, locals := 0 } : Room) s m #[(.ref a1)] below meth c s₁ [] 0 0 := Stand.of_body Bd
  have e0 : s₁.heap = h0 := by rw [← hh, Bd.state]; rfl
  have N0 := Fr.nil n0
  refine own_enter (ef_rm_effectiveCellSize m a1) ?_
  refine own_st (fun t_ k_ => XS.aloadN X0.here hx rfl (hb hby d9_0) rfl rfl k_) ?_
  show own_Go p e below s₁ (mkF m 1 #[.val (.ref a1)] [(.ref a1)]) _
  obtain ⟨T1, X1, e1, st1⟩ := getF X0 hx hZ hown (host := "") (Or.inl (hw _ (List.mem_of_getElem? (i := 19) rfl))) Via.refl e0 pF_effectiveCellSize_a1 (g := (mkF m 1 #[.val (.ref a1)] [(.ref a1)])) rfl rfl (hb hby d9_1)
  refine own_st st1 ?_
  show own_Go p e below T1 (mkF m 4 #[.val (.ref a1)] [(.double u)]) _
  obtain ⟨fs, hr, hrun, hended, hW, hsame⟩ := X1.leave (v := some (.double u)) (fun h => by rw [Bd.returns] at h; cases h)
  refine own_fin (own_retD X1 hx Bd.returns (hb hby d9_4) hr) ⟨hrun, hended, _, _, rfl, ?_, ⟨_, rfl⟩, hW, hsame.mono (by decide) (by decide)⟩
  show Q_rm_effectiveCellSize Z a1 u h0 n0 _ T1.heap _
  rw [e1]
  exact ⟨rfl, N0, rfl⟩
theorem d10_0 : decode prog_73_method_5_code 0 = .ok (.aload_n 0, 1) := by decide +kernel
theorem d10_1 : decode prog_73_method_5_code 1 = .ok (.getfield 22, 3) := by decide +kernel
theorem d10_4 : decode prog_73_method_5_code 4 = .ok (.dreturn, 1) := by decide +kernel
theorem pn_10 : plainName "com/example/spillback/spillback/model/Network" = true := by first | (simp [plainName, overriddenIn]; done) | decide +kernel
theorem ef_rm_effectiveLaneWidth (m : MethodId) (x0 : Addr) : entryFrame m #[(.ref x0)] 1 = mkF m 0 #[.val (.ref x0)] [] := by first | (simp [entryFrame, mkF, argsToLocals, Value.category]; done) | rfl
def Q_rm_effectiveLaneWidth (Z : State) (a1 : Addr) (u : UInt64) (h0 : Heap) (n0 : Nat) (v : Option Value) (h : Heap) (L : List Loc) : Prop := v = some (.double u) ∧ Fr n0 L ∧ h = h0
set_option maxRecDepth 65536 in
set_option maxHeartbeats 40000000 in
theorem rm_effectiveLaneWidth (l : Launch) (Z : State) (a0 : Array Value) (hw : ∀ d ∈ tables_1, d.before a0 Z = true) (ws : List Jvm.Cond) (a1 : Addr) (u : UInt64) (h0 : Heap) (n0 : Nat) (Z0 : n0 ≤ h0.size) (pF_effectiveLaneWidth_a1 : Fld Z h0 a1 "com/example/spillback/spillback/model/Network" "effectiveLaneWidth" "D" (.double u)) :
    MetFree l (⟨"com/example/spillback/spillback/model/Network", "effectiveLaneWidth", "()D"⟩ : MethodName) (head1 (Jvm.Cond.code (⟨"com/example/spillback/spillback/model/Network", "effectiveLaneWidth", "()D"⟩ : MethodName) prog_73_method_5_code 1 (some .double) :: ws) ({ frames := 0, cells := 0, slots := 0, locals := 0 } : Room)) (fun a U => a = #[(.ref a1)] ∧ Z.Warmed39 U.vm ∧ U.heap = h0) (fun _ _ _ _ _ => True) (fun _ U o U' => ∃ v L, o = .returned v ∧ Q_rm_effectiveLaneWidth Z a1 u h0 n0 v U'.heap L ∧ FrameEnd U o U' L ({ frames := 0, cells := 0, slots := 0, locals := 0 } : Room).cells ({ frames := 0, cells := 0, slots := 0, locals := 0 } : Room).slots) := by
  refine MetFree.of_bodySF (plainFor_of_name pn_10) hisR ?_
  intro p e s m args below meth c s₁ Bd hml0 hP hK
  obtain ⟨rfl, hZ, hh⟩ := hP
  have hx := Bd.exec
  have hby := Bd.bytes
  have hml : c.maxLocals = 1 := hml0
  have hown : s.vm.findClass "com/example/spillback/spillback/model/Network" = some m.cls := findClass_of_methodNamed Bd.named
  have hnm := (name_of_methodNamed Bd.named Bd.method).1
  have X0 : Stand p l e ({ frames := 0, cells := 0, slots := 0, locals := 0 } : Room) s m #[(.ref a1)] below meth c s₁ [] 0 0 := Stand.of_body Bd
  have e0 : s₁.heap = h0 := by rw [← hh, Bd.state]; rfl
  have N0 := Fr.nil n0
  refine own_enter (ef_rm_effectiveLaneWidth m a1) ?_
  refine own_st (fun t_ k_ => XS.aloadN X0.here hx rfl (hb hby d10_0) rfl rfl k_) ?_
  show own_Go p e below s₁ (mkF m 1 #[.val (.ref a1)] [(.ref a1)]) _
  obtain ⟨T1, X1, e1, st1⟩ := getF X0 hx hZ hown (host := "") (Or.inl (hw _ (List.mem_of_getElem? (i := 22) rfl))) Via.refl e0 pF_effectiveLaneWidth_a1 (g := (mkF m 1 #[.val (.ref a1)] [(.ref a1)])) rfl rfl (hb hby d10_1)
  refine own_st st1 ?_
  show own_Go p e below T1 (mkF m 4 #[.val (.ref a1)] [(.double u)]) _
  obtain ⟨fs, hr, hrun, hended, hW, hsame⟩ := X1.leave (v := some (.double u)) (fun h => by rw [Bd.returns] at h; cases h)
  refine own_fin (own_retD X1 hx Bd.returns (hb hby d10_4) hr) ⟨hrun, hended, _, _, rfl, ?_, ⟨_, rfl⟩, hW, hsame.mono (by decide) (by decide)⟩
  show Q_rm_effectiveLaneWidth Z a1 u h0 n0 _ T1.heap _
  rw [e1]
  exact ⟨rfl, N0, rfl⟩
theorem pn_0 : plainName "com/example/spillback/spillback/model/NetworkSetLinkParametersPinLaw" = true := by first | (simp [plainName, overriddenIn]; done) | decide +kernel
theorem pd__I_D : parseMethodDescriptor "(I)D" = some ⟨[.int], some .double⟩ := by decide +kernel
theorem pd__DDD_V : parseMethodDescriptor "(DDD)V" = some ⟨[.double, .double, .double], none⟩ := by decide +kernel
theorem pd___D : parseMethodDescriptor "()D" = some ⟨[], some .double⟩ := by decide +kernel
theorem ef_rmLaw (m : MethodId) (x0 : Int32) (x1 : Int32) (x2 : Int32) (x3 : Int32) (x4 : Int32) (x5 : Int32) : entryFrame m #[(.int x0), (.int x1), (.int x2), (.int x3), (.int x4), (.int x5)] maxLocals = mkF m 0 #[.val (.int x0), .val (.int x1), .val (.int x2), .val (.int x3), .val (.int x4), .val (.int x5), .unset, .unset, .unset, .unset, .unset, .unset, .unset, .unset, .unset, .unset, .unset, .unset, .unset, .unset, .unset] [] := by first | (simp [entryFrame, mkF, argsToLocals, Value.category, maxLocals]; done) | rfl
def Q_rmLaw (Z : State) (p0 : Int32) (p1 : Int32) (p2 : Int32) (p3 : Int32) (p4 : Int32) (p5 : Int32) (h0 : Heap) (n0 : Nat) (v : Option Value) (h : Heap) (L : List Loc) : Prop := v = some (.int (1 : Int32)) ∧ Fr n0 L ∧ Keep h0 h []
set_option maxRecDepth 65536 in
set_option maxHeartbeats 40000000 in
theorem rmLaw (l : Launch) (Z : State) (a0 : Array Value) (hw : ∀ d ∈ tables_1, d.before a0 Z = true) (ws : List Jvm.Cond) (p0 : Int32) (p1 : Int32) (p2 : Int32) (p3 : Int32) (p4 : Int32) (p5 : Int32) (h0 : Heap) (n0 : Nat) (Z0 : n0 ≤ h0.size) :
    MetFree l x (head1 (Jvm.Cond.code x code maxLocals ret :: ws) room_1) (fun a U => a = #[(.int p0), (.int p1), (.int p2), (.int p3), (.int p4), (.int p5)] ∧ Z.Warmed39 U.vm ∧ U.heap = h0) (fun _ _ _ _ _ => True) (fun _ U o U' => ∃ v L, o = .returned v ∧ Q_rmLaw Z p0 p1 p2 p3 p4 p5 h0 n0 v U'.heap L ∧ FrameEnd U o U' L 16 128) := by
  refine MetFree.of_bodySF (plainFor_of_name pn_0) hisR ?_
  intro p e s m args below meth c s₁ Bd hml0 hP hK
  obtain ⟨rfl, hZ, hh⟩ := hP
  have hx := Bd.exec
  have hby := Bd.bytes
  have hml : c.maxLocals = 21 := hml0
  have hown : s.vm.findClass "com/example/spillback/spillback/model/NetworkSetLinkParametersPinLaw" = some m.cls := findClass_of_methodNamed Bd.named
  have hnm := (name_of_methodNamed Bd.named Bd.method).1
  have X0 : Stand p l e room_1 s m #[(.int p0), (.int p1), (.int p2), (.int p3), (.int p4), (.int p5)] below meth c s₁ [] 0 0 := Stand.of_body Bd
  have e0 : s₁.heap = h0 := by rw [← hh, Bd.state]; rfl
  have N0 := Fr.nil n0
  refine own_enter (ef_rmLaw m p0 p1 p2 p3 p4 p5) ?_
  refine own_st (fun t_ k_ => XS.iloadN X0.here hx rfl (hb hby at_0) rfl k_) ?_
  show own_Go p e below s₁ (mkF m 1 #[.val (.int p0), .val (.int p1), .val (.int p2), .val (.int p3), .val (.int p4), .val (.int p5), .unset, .unset, .unset, .unset, .unset, .unset, .unset, .unset, .unset, .unset, .unset, .unset, .unset, .unset, .unset] [(.int p0)]) _
  obtain ⟨_, _, ⟨T1, L1, k1, n1⟩, -, X1, ⟨Lc1, hQ1, l1, y1, z1⟩, st1⟩ := Jvm.LawKit.callS X0 hx (y := (⟨"com/example/spillback/spillback/model/NetworkSetLinkParametersPinLaw", "pos", "(I)D"⟩ : MethodName)) hown (mvT hZ (hw _ (List.mem_of_getElem? (i := 0) rfl))) (mvT hZ (hw _ (List.mem_of_getElem? (i := 1) rfl))) (mvT hZ (hw _ (List.mem_of_getElem? (i := 2) rfl))) (mvT hZ (hw _ (List.mem_of_getElem? (i := 3) rfl))) (by decide) (backOf (W := 0) (rmPos l Z a0 hw [] p0 h0 n0 Z0 ) hZ (hw _ (List.mem_of_getElem? (i := 3) rfl)) (hw _ (List.mem_of_getElem? (i := 2) rfl)) (by decide) (by decide)) (g := (mkF m 1 #[.val (.int p0), .val (.int p1), .val (.int p2), .val (.int p3), .val (.int p4), .val (.int p5), .unset, .unset, .unset, .unset, .unset, .unset, .unset, .unset, .unset, .unset, .unset, .unset, .unset, .unset, .unset] [(.int p0)])) rfl (by rw [hml]; rfl) (argsL := [(.int p0)]) (rest := []) (lenOf pd__I_D rfl) rfl (by show 2 * 0 + _ ≤ _; exact Nat.le_of_eq rfl) (hb hby at_1) (fun _ _ => ⟨rfl, e0, (by decide : 0 + 0 ≤ _), (by decide : 0 + 0 ≤ _)⟩)
  dsimp only [Pt.U, Pt.locs, Pt.cells, Pt.slots] at X1 l1 y1 z1 st1 hQ1
  subst l1 y1 z1
  obtain ⟨rfl, Nq1, eH1⟩ := hQ1
  have N1 := Fr.app N0 Nq1
  refine own_st st1 ?_
  show own_Go p e below T1 (mkF m 4 #[.val (.int p0), .val (.int p1), .val (.int p2), .val (.int p3), .val (.int p4), .val (.int p5), .unset, .unset, .unset, .unset, .unset, .unset, .unset, .unset, .unset, .unset, .unset, .unset, .unset, .unset, .unset] [(.double (own_pos p0))]) _
  refine own_st (fun t_ k_ => XS.dstore X1.here hx rfl (hb hby at_4) rfl (l' := #[.val (.int p0), .val (.int p1), .val (.int p2), .val (.int p3), .val (.int p4), .val (.int p5), .val (.double (own_pos p0)), .second, .unset, .unset, .unset, .unset, .unset, .unset, .unset, .unset, .unset, .unset, .unset, .unset, .unset]) rfl k_) ?_
  show own_Go p e below T1 (mkF m 6 #[.val (.int p0), .val (.int p1), .val (.int p2), .val (.int p3), .val (.int p4), .val (.int p5), .val (.double (own_pos p0)), .second, .unset, .unset, .unset, .unset, .unset, .unset, .unset, .unset, .unset, .unset, .unset, .unset, .unset] []) _
  refine own_st (fun t_ k_ => XS.iloadN X1.here hx rfl (hb hby at_6) rfl k_) ?_
  show own_Go p e below T1 (mkF m 7 #[.val (.int p0), .val (.int p1), .val (.int p2), .val (.int p3), .val (.int p4), .val (.int p5), .val (.double (own_pos p0)), .second, .unset, .unset, .unset, .unset, .unset, .unset, .unset, .unset, .unset, .unset, .unset, .unset, .unset] [(.int p1)]) _
  obtain ⟨_, _, ⟨T2, L2, k2, n2⟩, -, X2, ⟨Lc2, hQ2, l2, y2, z2⟩, st2⟩ := Jvm.LawKit.callS X1 hx (y := (⟨"com/example/spillback/spillback/model/NetworkSetLinkParametersPinLaw", "pos", "(I)D"⟩ : MethodName)) hown (mvT hZ (hw _ (List.mem_of_getElem? (i := 0) rfl))) (mvT hZ (hw _ (List.mem_of_getElem? (i := 1) rfl))) (mvT hZ (hw _ (List.mem_of_getElem? (i := 2) rfl))) (mvT hZ (hw _ (List.mem_of_getElem? (i := 3) rfl))) (by decide) (backOf (W := 0) (rmPos l Z a0 hw [] p1 h0 n0 Z0 ) hZ (hw _ (List.mem_of_getElem? (i := 3) rfl)) (hw _ (List.mem_of_getElem? (i := 2) rfl)) (by decide) (by decide)) (g := (mkF m 7 #[.val (.int p0), .val (.int p1), .val (.int p2), .val (.int p3), .val (.int p4), .val (.int p5), .val (.double (own_pos p0)), .second, .unset, .unset, .unset, .unset, .unset, .unset, .unset, .unset, .unset, .unset, .unset, .unset, .unset] [(.int p1)])) rfl (by rw [hml]; rfl) (argsL := [(.int p1)]) (rest := []) (lenOf pd__I_D rfl) rfl (by show 2 * 0 + _ ≤ _; exact Nat.le_of_eq rfl) (hb hby at_7) (fun _ _ => ⟨rfl, eH1, (by decide : 0 + 0 ≤ _), (by decide : 0 + 0 ≤ _)⟩)
  dsimp only [Pt.U, Pt.locs, Pt.cells, Pt.slots] at X2 l2 y2 z2 st2 hQ2
  subst l2 y2 z2
  obtain ⟨rfl, Nq2, eH2⟩ := hQ2
  have N2 := Fr.app N1 Nq2
  refine own_st st2 ?_
  show own_Go p e below T2 (mkF m 10 #[.val (.int p0), .val (.int p1), .val (.int p2), .val (.int p3), .val (.int p4), .val (.int p5), .val (.double (own_pos p0)), .second, .unset, .unset, .unset, .unset, .unset, .unset, .unset, .unset, .unset, .unset, .unset, .unset, .unset] [(.double (own_pos p1))]) _
  refine own_st (fun t_ k_ => XS.dstore X2.here hx rfl (hb hby at_10) rfl (l' := #[.val (.int p0), .val (.int p1), .val (.int p2), .val (.int p3), .val (.int p4), .val (.int p5), .val (.double (own_pos p0)), .second, .val (.double (own_pos p1)), .second, .unset, .unset, .unset, .unset, .unset, .unset, .unset, .unset, .unset, .unset, .unset]) rfl k_) ?_
  show own_Go p e below T2 (mkF m 12 #[.val (.int p0), .val (.int p1), .val (.int p2), .val (.int p3), .val (.int p4), .val (.int p5), .val (.double (own_pos p0)), .second, .val (.double (own_pos p1)), .second, .unset, .unset, .unset, .unset, .unset, .unset, .unset, .unset, .unset, .unset, .unset] []) _
  refine own_st (fun t_ k_ => XS.iloadN X2.here hx rfl (hb hby at_12) rfl k_) ?_
  show own_Go p e below T2 (mkF m 13 #[.val (.int p0), .val (.int p1), .val (.int p2), .val (.int p3), .val (.int p4), .val (.int p5), .val (.double (own_pos p0)), .second, .val (.double (own_pos p1)), .second, .unset, .unset, .unset, .unset, .unset, .unset, .unset, .unset, .unset, .unset, .unset] [(.int p2)]) _
  obtain ⟨_, _, ⟨T3, L3, k3, n3⟩, -, X3, ⟨Lc3, hQ3, l3, y3, z3⟩, st3⟩ := Jvm.LawKit.callS X2 hx (y := (⟨"com/example/spillback/spillback/model/NetworkSetLinkParametersPinLaw", "pos", "(I)D"⟩ : MethodName)) hown (mvT hZ (hw _ (List.mem_of_getElem? (i := 0) rfl))) (mvT hZ (hw _ (List.mem_of_getElem? (i := 1) rfl))) (mvT hZ (hw _ (List.mem_of_getElem? (i := 2) rfl))) (mvT hZ (hw _ (List.mem_of_getElem? (i := 3) rfl))) (by decide) (backOf (W := 0) (rmPos l Z a0 hw [] p2 h0 n0 Z0 ) hZ (hw _ (List.mem_of_getElem? (i := 3) rfl)) (hw _ (List.mem_of_getElem? (i := 2) rfl)) (by decide) (by decide)) (g := (mkF m 13 #[.val (.int p0), .val (.int p1), .val (.int p2), .val (.int p3), .val (.int p4), .val (.int p5), .val (.double (own_pos p0)), .second, .val (.double (own_pos p1)), .second, .unset, .unset, .unset, .unset, .unset, .unset, .unset, .unset, .unset, .unset, .unset] [(.int p2)])) rfl (by rw [hml]; rfl) (argsL := [(.int p2)]) (rest := []) (lenOf pd__I_D rfl) rfl (by show 2 * 0 + _ ≤ _; exact Nat.le_of_eq rfl) (hb hby at_13) (fun _ _ => ⟨rfl, eH2, (by decide : 0 + 0 ≤ _), (by decide : 0 + 0 ≤ _)⟩)
  dsimp only [Pt.U, Pt.locs, Pt.cells, Pt.slots] at X3 l3 y3 z3 st3 hQ3
  subst l3 y3 z3
  obtain ⟨rfl, Nq3, eH3⟩ := hQ3
  have N3 := Fr.app N2 Nq3
  refine own_st st3 ?_
  show own_Go p e below T3 (mkF m 16 #[.val (.int p0), .val (.int p1), .val (.int p2), .val (.int p3), .val (.int p4), .val (.int p5), .val (.double (own_pos p0)), .second, .val (.double (own_pos p1)), .second, .unset, .unset, .unset, .unset, .unset, .unset, .unset, .unset, .unset, .unset, .unset] [(.double (own_pos p2))]) _
  refine own_st (fun t_ k_ => XS.dstore X3.here hx rfl (hb hby at_16) rfl (l' := #[.val (.int p0), .val (.int p1), .val (.int p2), .val (.int p3), .val (.int p4), .val (.int p5), .val (.double (own_pos p0)), .second, .val (.double (own_pos p1)), .second, .val (.double (own_pos p2)), .second, .unset, .unset, .unset, .unset, .unset, .unset, .unset, .unset, .unset]) rfl k_) ?_
  show own_Go p e below T3 (mkF m 18 #[.val (.int p0), .val (.int p1), .val (.int p2), .val (.int p3), .val (.int p4), .val (.int p5), .val (.double (own_pos p0)), .second, .val (.double (own_pos p1)), .second, .val (.double (own_pos p2)), .second, .unset, .unset, .unset, .unset, .unset, .unset, .unset, .unset, .unset] []) _
  refine own_st (fun t_ k_ => XS.iloadN X3.here hx rfl (hb hby at_18) rfl k_) ?_
  show own_Go p e below T3 (mkF m 19 #[.val (.int p0), .val (.int p1), .val (.int p2), .val (.int p3), .val (.int p4), .val (.int p5), .val (.double (own_pos p0)), .second, .val (.double (own_pos p1)), .second, .val (.double (own_pos p2)), .second, .unset, .unset, .unset, .unset, .unset, .unset, .unset, .unset, .unset] [(.int p3)]) _
  obtain ⟨_, _, ⟨T4, L4, k4, n4⟩, -, X4, ⟨Lc4, hQ4, l4, y4, z4⟩, st4⟩ := Jvm.LawKit.callS X3 hx (y := (⟨"com/example/spillback/spillback/model/NetworkSetLinkParametersPinLaw", "pos", "(I)D"⟩ : MethodName)) hown (mvT hZ (hw _ (List.mem_of_getElem? (i := 0) rfl))) (mvT hZ (hw _ (List.mem_of_getElem? (i := 1) rfl))) (mvT hZ (hw _ (List.mem_of_getElem? (i := 2) rfl))) (mvT hZ (hw _ (List.mem_of_getElem? (i := 3) rfl))) (by decide) (backOf (W := 0) (rmPos l Z a0 hw [] p3 h0 n0 Z0 ) hZ (hw _ (List.mem_of_getElem? (i := 3) rfl)) (hw _ (List.mem_of_getElem? (i := 2) rfl)) (by decide) (by decide)) (g := (mkF m 19 #[.val (.int p0), .val (.int p1), .val (.int p2), .val (.int p3), .val (.int p4), .val (.int p5), .val (.double (own_pos p0)), .second, .val (.double (own_pos p1)), .second, .val (.double (own_pos p2)), .second, .unset, .unset, .unset, .unset, .unset, .unset, .unset, .unset, .unset] [(.int p3)])) rfl (by rw [hml]; rfl) (argsL := [(.int p3)]) (rest := []) (lenOf pd__I_D rfl) rfl (by show 2 * 0 + _ ≤ _; exact Nat.le_of_eq rfl) (hb hby at_19) (fun _ _ => ⟨rfl, eH3, (by decide : 0 + 0 ≤ _), (by decide : 0 + 0 ≤ _)⟩)
  dsimp only [Pt.U, Pt.locs, Pt.cells, Pt.slots] at X4 l4 y4 z4 st4 hQ4
  subst l4 y4 z4
  obtain ⟨rfl, Nq4, eH4⟩ := hQ4
  have N4 := Fr.app N3 Nq4
  refine own_st st4 ?_
  show own_Go p e below T4 (mkF m 22 #[.val (.int p0), .val (.int p1), .val (.int p2), .val (.int p3), .val (.int p4), .val (.int p5), .val (.double (own_pos p0)), .second, .val (.double (own_pos p1)), .second, .val (.double (own_pos p2)), .second, .unset, .unset, .unset, .unset, .unset, .unset, .unset, .unset, .unset] [(.double (own_pos p3))]) _
  refine own_st (fun t_ k_ => XS.dstore X4.here hx rfl (hb hby at_22) rfl (l' := #[.val (.int p0), .val (.int p1), .val (.int p2), .val (.int p3), .val (.int p4), .val (.int p5), .val (.double (own_pos p0)), .second, .val (.double (own_pos p1)), .second, .val (.double (own_pos p2)), .second, .val (.double (own_pos p3)), .second, .unset, .unset, .unset, .unset, .unset, .unset, .unset]) rfl k_) ?_
  show own_Go p e below T4 (mkF m 24 #[.val (.int p0), .val (.int p1), .val (.int p2), .val (.int p3), .val (.int p4), .val (.int p5), .val (.double (own_pos p0)), .second, .val (.double (own_pos p1)), .second, .val (.double (own_pos p2)), .second, .val (.double (own_pos p3)), .second, .unset, .unset, .unset, .unset, .unset, .unset, .unset] []) _
  refine own_st (fun t_ k_ => XS.iload X4.here hx rfl (hb hby at_24) rfl k_) ?_
  show own_Go p e below T4 (mkF m 26 #[.val (.int p0), .val (.int p1), .val (.int p2), .val (.int p3), .val (.int p4), .val (.int p5), .val (.double (own_pos p0)), .second, .val (.double (own_pos p1)), .second, .val (.double (own_pos p2)), .second, .val (.double (own_pos p3)), .second, .unset, .unset, .unset, .unset, .unset, .unset, .unset] [(.int p4)]) _
  obtain ⟨_, _, ⟨T5, L5, k5, n5⟩, -, X5, ⟨Lc5, hQ5, l5, y5, z5⟩, st5⟩ := Jvm.LawKit.callS X4 hx (y := (⟨"com/example/spillback/spillback/model/NetworkSetLinkParametersPinLaw", "pos", "(I)D"⟩ : MethodName)) hown (mvT hZ (hw _ (List.mem_of_getElem? (i := 0) rfl))) (mvT hZ (hw _ (List.mem_of_getElem? (i := 1) rfl))) (mvT hZ (hw _ (List.mem_of_getElem? (i := 2) rfl))) (mvT hZ (hw _ (List.mem_of_getElem? (i := 3) rfl))) (by decide) (backOf (W := 0) (rmPos l Z a0 hw [] p4 h0 n0 Z0 ) hZ (hw _ (List.mem_of_getElem? (i := 3) rfl)) (hw _ (List.mem_of_getElem? (i := 2) rfl)) (by decide) (by decide)) (g := (mkF m 26 #[.val (.int p0), .val (.int p1), .val (.int p2), .val (.int p3), .val (.int p4), .val (.int p5), .val (.double (own_pos p0)), .second, .val (.double (own_pos p1)), .second, .val (.double (own_pos p2)), .second, .val (.double (own_pos p3)), .second, .unset, .unset, .unset, .unset, .unset, .unset, .unset] [(.int p4)])) rfl (by rw [hml]; rfl) (argsL := [(.int p4)]) (rest := []) (lenOf pd__I_D rfl) rfl (by show 2 * 0 + _ ≤ _; exact Nat.le_of_eq rfl) (hb hby at_26) (fun _ _ => ⟨rfl, eH4, (by decide : 0 + 0 ≤ _), (by decide : 0 + 0 ≤ _)⟩)
  dsimp only [Pt.U, Pt.locs, Pt.cells, Pt.slots] at X5 l5 y5 z5 st5 hQ5
  subst l5 y5 z5
  obtain ⟨rfl, Nq5, eH5⟩ := hQ5
  have N5 := Fr.app N4 Nq5
  refine own_st st5 ?_
  show own_Go p e below T5 (mkF m 29 #[.val (.int p0), .val (.int p1), .val (.int p2), .val (.int p3), .val (.int p4), .val (.int p5), .val (.double (own_pos p0)), .second, .val (.double (own_pos p1)), .second, .val (.double (own_pos p2)), .second, .val (.double (own_pos p3)), .second, .unset, .unset, .unset, .unset, .unset, .unset, .unset] [(.double (own_pos p4))]) _
  refine own_st (fun t_ k_ => XS.dstore X5.here hx rfl (hb hby at_29) rfl (l' := #[.val (.int p0), .val (.int p1), .val (.int p2), .val (.int p3), .val (.int p4), .val (.int p5), .val (.double (own_pos p0)), .second, .val (.double (own_pos p1)), .second, .val (.double (own_pos p2)), .second, .val (.double (own_pos p3)), .second, .val (.double (own_pos p4)), .second, .unset, .unset, .unset, .unset, .unset]) rfl k_) ?_
  show own_Go p e below T5 (mkF m 31 #[.val (.int p0), .val (.int p1), .val (.int p2), .val (.int p3), .val (.int p4), .val (.int p5), .val (.double (own_pos p0)), .second, .val (.double (own_pos p1)), .second, .val (.double (own_pos p2)), .second, .val (.double (own_pos p3)), .second, .val (.double (own_pos p4)), .second, .unset, .unset, .unset, .unset, .unset] []) _
  refine own_st (fun t_ k_ => XS.iload X5.here hx rfl (hb hby at_31) rfl k_) ?_
  show own_Go p e below T5 (mkF m 33 #[.val (.int p0), .val (.int p1), .val (.int p2), .val (.int p3), .val (.int p4), .val (.int p5), .val (.double (own_pos p0)), .second, .val (.double (own_pos p1)), .second, .val (.double (own_pos p2)), .second, .val (.double (own_pos p3)), .second, .val (.double (own_pos p4)), .second, .unset, .unset, .unset, .unset, .unset] [(.int p5)]) _
  obtain ⟨_, _, ⟨T6, L6, k6, n6⟩, -, X6, ⟨Lc6, hQ6, l6, y6, z6⟩, st6⟩ := Jvm.LawKit.callS X5 hx (y := (⟨"com/example/spillback/spillback/model/NetworkSetLinkParametersPinLaw", "pos", "(I)D"⟩ : MethodName)) hown (mvT hZ (hw _ (List.mem_of_getElem? (i := 0) rfl))) (mvT hZ (hw _ (List.mem_of_getElem? (i := 1) rfl))) (mvT hZ (hw _ (List.mem_of_getElem? (i := 2) rfl))) (mvT hZ (hw _ (List.mem_of_getElem? (i := 3) rfl))) (by decide) (backOf (W := 0) (rmPos l Z a0 hw [] p5 h0 n0 Z0 ) hZ (hw _ (List.mem_of_getElem? (i := 3) rfl)) (hw _ (List.mem_of_getElem? (i := 2) rfl)) (by decide) (by decide)) (g := (mkF m 33 #[.val (.int p0), .val (.int p1), .val (.int p2), .val (.int p3), .val (.int p4), .val (.int p5), .val (.double (own_pos p0)), .second, .val (.double (own_pos p1)), .second, .val (.double (own_pos p2)), .second, .val (.double (own_pos p3)), .second, .val (.double (own_pos p4)), .second, .unset, .unset, .unset, .unset, .unset] [(.int p5)])) rfl (by rw [hml]; rfl) (argsL := [(.int p5)]) (rest := []) (lenOf pd__I_D rfl) rfl (by show 2 * 0 + _ ≤ _; exact Nat.le_of_eq rfl) (hb hby at_33) (fun _ _ => ⟨rfl, eH5, (by decide : 0 + 0 ≤ _), (by decide : 0 + 0 ≤ _)⟩)
  dsimp only [Pt.U, Pt.locs, Pt.cells, Pt.slots] at X6 l6 y6 z6 st6 hQ6
  subst l6 y6 z6
  obtain ⟨rfl, Nq6, eH6⟩ := hQ6
  have N6 := Fr.app N5 Nq6
  refine own_st st6 ?_
  show own_Go p e below T6 (mkF m 36 #[.val (.int p0), .val (.int p1), .val (.int p2), .val (.int p3), .val (.int p4), .val (.int p5), .val (.double (own_pos p0)), .second, .val (.double (own_pos p1)), .second, .val (.double (own_pos p2)), .second, .val (.double (own_pos p3)), .second, .val (.double (own_pos p4)), .second, .unset, .unset, .unset, .unset, .unset] [(.double (own_pos p5))]) _
  refine own_st (fun t_ k_ => XS.dstore X6.here hx rfl (hb hby at_36) rfl (l' := #[.val (.int p0), .val (.int p1), .val (.int p2), .val (.int p3), .val (.int p4), .val (.int p5), .val (.double (own_pos p0)), .second, .val (.double (own_pos p1)), .second, .val (.double (own_pos p2)), .second, .val (.double (own_pos p3)), .second, .val (.double (own_pos p4)), .second, .val (.double (own_pos p5)), .second, .unset, .unset, .unset]) rfl k_) ?_
  show own_Go p e below T6 (mkF m 38 #[.val (.int p0), .val (.int p1), .val (.int p2), .val (.int p3), .val (.int p4), .val (.int p5), .val (.double (own_pos p0)), .second, .val (.double (own_pos p1)), .second, .val (.double (own_pos p2)), .second, .val (.double (own_pos p3)), .second, .val (.double (own_pos p4)), .second, .val (.double (own_pos p5)), .second, .unset, .unset, .unset] []) _
  obtain ⟨T7, h7, X7, e7, E7, A7, D7, -, st7⟩ := newO X6 hx hZ hown (hw _ (List.mem_of_getElem? (i := 6) rfl)) (hw _ (List.mem_of_getElem? (i := 7) rfl)) (hw _ (List.mem_of_getElem? (i := 8) rfl)) eH6 (g := (mkF m 38 #[.val (.int p0), .val (.int p1), .val (.int p2), .val (.int p3), .val (.int p4), .val (.int p5), .val (.double (own_pos p0)), .second, .val (.double (own_pos p1)), .second, .val (.double (own_pos p2)), .second, .val (.double (own_pos p3)), .second, .val (.double (own_pos p4)), .second, .val (.double (own_pos p5)), .second, .unset, .unset, .unset] [])) rfl (hb hby at_38) (by decide) (by decide)
  obtain ⟨b7, g7⟩ : ∃ z, z = h0.size := ⟨_, rfl⟩
  rw [← g7] at A7 D7 st7
  have G7 : n0 ≤ b7 := Nat.le_trans Z0 (Nat.le_of_eq g7.symm)
  have B7 : h0.size ≤ b7 := Nat.le_trans (Keep.refl h0 []).1 (Nat.le_of_eq g7.symm)
  have K8 : Keep h0 h7 [] := (Keep.refl h0 []).ext E7
  have D7_capacityPeriod : Fld Z h7 b7 "com/example/spillback/spillback/model/Network" "capacityPeriod" "D" (.double (0 : UInt64)) := D7 (Or.inl (hw _ (List.mem_of_getElem? (i := 17) rfl))) (ty := .double) (by decide)
  have D7_effectiveCellSize : Fld Z h7 b7 "com/example/spillback/spillback/model/Network" "effectiveCellSize" "D" (.double (0 : UInt64)) := D7 (Or.inl (hw _ (List.mem_of_getElem? (i := 20) rfl))) (ty := .double) (by decide)
  have D7_effectiveLaneWidth : Fld Z h7 b7 "com/example/spillback/spillback/model/Network" "effectiveLaneWidth" "D" (.double (0 : UInt64)) := D7 (Or.inl (hw _ (List.mem_of_getElem? (i := 23) rfl))) (ty := .double) (by decide)
  have D7_nodes : Fld Z h7 b7 "com/example/spillback/spillback/model/Network" "nodes" "Ljava/util/Map;" .null := D7 (Or.inr (hw _ (List.mem_of_getElem? (i := 51) rfl))) (ty := (.object "java/util/Map")) (by decide)
  have D7_links : Fld Z h7 b7 "com/example/spillback/spillback/model/Network" "links" "Ljava/util/Map;" .null := D7 (Or.inr (hw _ (List.mem_of_getElem? (i := 53) rfl))) (ty := (.object "java/util/Map")) (by decide)
  refine own_st st7 ?_
  show own_Go p e below T7 (mkF m 41 #[.val (.int p0), .val (.int p1), .val (.int p2), .val (.int p3), .val (.int p4), .val (.int p5), .val (.double (own_pos p0)), .second, .val (.double (own_pos p1)), .second, .val (.double (own_pos p2)), .second, .val (.double (own_pos p3)), .second, .val (.double (own_pos p4)), .second, .val (.double (own_pos p5)), .second, .unset, .unset, .unset] [(.ref b7)]) _
  refine own_st (fun t_ k_ => XS.dup X7.here hx rfl (hb hby at_41) rfl rfl k_) ?_
  show own_Go p e below T7 (mkF m 42 #[.val (.int p0), .val (.int p1), .val (.int p2), .val (.int p3), .val (.int p4), .val (.int p5), .val (.double (own_pos p0)), .second, .val (.double (own_pos p1)), .second, .val (.double (own_pos p2)), .second, .val (.double (own_pos p3)), .second, .val (.double (own_pos p4)), .second, .val (.double (own_pos p5)), .second, .unset, .unset, .unset] [(.ref b7), (.ref b7)]) _
  have f9 := (Nat.le_trans Z0 E7.1)
  obtain ⟨_, _, ⟨T10, L10, k10, n10⟩, -, X10, ⟨Lc10, hQ10, l10, y10, z10⟩, st10⟩ := X7.specialBack hx (y := (⟨"com/example/spillback/spillback/model/Network", "<init>", "()V"⟩ : MethodName)) rfl hown (mvT hZ (hw _ (List.mem_of_getElem? (i := 9) rfl))) (mvT hZ (hw _ (List.mem_of_getElem? (i := 10) rfl))) (mvT hZ (hw _ (List.mem_of_getElem? (i := 11) rfl))) (by decide) (backOf (W := 1) (rmNW l Z a0 hw [] b7 ((.double (0 : UInt64))) ((.double (0 : UInt64))) ((.double (0 : UInt64))) .null .null h7 n0 f9 A7 D7_capacityPeriod D7_effectiveCellSize D7_effectiveLaneWidth D7_nodes D7_links G7) hZ (hw _ (List.mem_of_getElem? (i := 11) rfl)) (hw _ (List.mem_of_getElem? (i := 8) rfl)) (by decide) (by decide)) (g := (mkF m 42 #[.val (.int p0), .val (.int p1), .val (.int p2), .val (.int p3), .val (.int p4), .val (.int p5), .val (.double (own_pos p0)), .second, .val (.double (own_pos p1)), .second, .val (.double (own_pos p2)), .second, .val (.double (own_pos p3)), .second, .val (.double (own_pos p4)), .second, .val (.double (own_pos p5)), .second, .unset, .unset, .unset] [(.ref b7), (.ref b7)])) rfl (by rw [hml]; rfl) (Steps.refl _) (a := b7) (argsL := []) (rest := [(.ref b7)]) (lenOf pd___V rfl) rfl (by show 2 * 0 + _ ≤ _; exact Nat.le_of_eq rfl) (hb hby at_42) (fun _ _ => ⟨rfl, e7, (by decide : 1 + 2 ≤ _), (by decide : 5 + 24 ≤ _)⟩)
  dsimp only [Pt.U, Pt.locs, Pt.cells, Pt.slots] at X10 l10 y10 z10 st10 hQ10
  subst l10 y10 z10
  obtain ⟨rfl, Nq10, Kq10, q10_0, q10_1, q10_2⟩ := hQ10
  have N10 := Fr.app N6 Nq10
  have K11 : Keep h0 T10.heap [] := K8.trans Kq10 (allS (Or.inr B7) all0)
  refine own_tr st10 ?_
  show own_Go p e below T10 (mkF m 45 #[.val (.int p0), .val (.int p1), .val (.int p2), .val (.int p3), .val (.int p4), .val (.int p5), .val (.double (own_pos p0)), .second, .val (.double (own_pos p1)), .second, .val (.double (own_pos p2)), .second, .val (.double (own_pos p3)), .second, .val (.double (own_pos p4)), .second, .val (.double (own_pos p5)), .second, .unset, .unset, .unset] [(.ref b7)]) _
  refine own_st (fun t_ k_ => XS.astore X10.here hx rfl (hb hby at_45) rfl rfl (l' := #[.val (.int p0), .val (.int p1), .val (.int p2), .val (.int p3), .val (.int p4), .val (.int p5), .val (.double (own_pos p0)), .second, .val (.double (own_pos p1)), .second, .val (.double (own_pos p2)), .second, .val (.double (own_pos p3)), .second, .val (.double (own_pos p4)), .second, .val (.double (own_pos p5)), .second, .val (.ref b7), .unset, .unset]) rfl k_) ?_
  show own_Go p e below T10 (mkF m 47 #[.val (.int p0), .val (.int p1), .val (.int p2), .val (.int p3), .val (.int p4), .val (.int p5), .val (.double (own_pos p0)), .second, .val (.double (own_pos p1)), .second, .val (.double (own_pos p2)), .second, .val (.double (own_pos p3)), .second, .val (.double (own_pos p4)), .second, .val (.double (own_pos p5)), .second, .val (.ref b7), .unset, .unset] []) _
  refine own_st (fun t_ k_ => XS.aload X10.here hx rfl (hb hby at_47) rfl rfl k_) ?_
  show own_Go p e below T10 (mkF m 49 #[.val (.int p0), .val (.int p1), .val (.int p2), .val (.int p3), .val (.int p4), .val (.int p5), .val (.double (own_pos p0)), .second, .val (.double (own_pos p1)), .second, .val (.double (own_pos p2)), .second, .val (.double (own_pos p3)), .second, .val (.double (own_pos p4)), .second, .val (.double (own_pos p5)), .second, .val (.ref b7), .unset, .unset] [(.ref b7)]) _
  refine own_st (fun t_ k_ => XS.dload X10.here hx rfl (hb hby at_49) rfl k_) ?_
  show own_Go p e below T10 (mkF m 51 #[.val (.int p0), .val (.int p1), .val (.int p2), .val (.int p3), .val (.int p4), .val (.int p5), .val (.double (own_pos p0)), .second, .val (.double (own_pos p1)), .second, .val (.double (own_pos p2)), .second, .val (.double (own_pos p3)), .second, .val (.double (own_pos p4)), .second, .val (.double (own_pos p5)), .second, .val (.ref b7), .unset, .unset] [(.double (own_pos p0)), (.ref b7)]) _
  refine own_st (fun t_ k_ => XS.dload X10.here hx rfl (hb hby at_51) rfl k_) ?_
  show own_Go p e below T10 (mkF m 53 #[.val (.int p0), .val (.int p1), .val (.int p2), .val (.int p3), .val (.int p4), .val (.int p5), .val (.double (own_pos p0)), .second, .val (.double (own_pos p1)), .second, .val (.double (own_pos p2)), .second, .val (.double (own_pos p3)), .second, .val (.double (own_pos p4)), .second, .val (.double (own_pos p5)), .second, .val (.ref b7), .unset, .unset] [(.double (own_pos p1)), (.double (own_pos p0)), (.ref b7)]) _
  refine own_st (fun t_ k_ => XS.dload X10.here hx rfl (hb hby at_53) rfl k_) ?_
  show own_Go p e below T10 (mkF m 55 #[.val (.int p0), .val (.int p1), .val (.int p2), .val (.int p3), .val (.int p4), .val (.int p5), .val (.double (own_pos p0)), .second, .val (.double (own_pos p1)), .second, .val (.double (own_pos p2)), .second, .val (.double (own_pos p3)), .second, .val (.double (own_pos p4)), .second, .val (.double (own_pos p5)), .second, .val (.ref b7), .unset, .unset] [(.double (own_pos p2)), (.double (own_pos p1)), (.double (own_pos p0)), (.ref b7)]) _
  have f12 := (Nat.le_trans f9 Kq10.1)
  have f13 := (A7.keep Kq10)
  obtain ⟨cq14, kq14, qa14, qb14, qc14⟩ := isOf hZ rfl f13
  obtain ⟨_, _, ⟨T14, L14, k14, n14⟩, -, X14, ⟨Lc14, hQ14, l14, y14, z14⟩, st14⟩ := X10.virtualBack hx (y := (⟨"com/example/spillback/spillback/model/Network", "setLinkParameters", "(DDD)V"⟩ : MethodName)) (z := (⟨"com/example/spillback/spillback/model/Network", "setLinkParameters", "(DDD)V"⟩ : MethodName)) hown (mvT hZ (hw _ (List.mem_of_getElem? (i := 54) rfl))) (mvT hZ (hw _ (List.mem_of_getElem? (i := 55) rfl))) (notFace_of_selects (args := #[]) (mvT hZ (hw _ (List.mem_of_getElem? (i := 57) rfl)))) (mvT hZ (hw _ (List.mem_of_getElem? (i := 57) rfl))) (mvT hZ (hw _ (List.mem_of_getElem? (i := 56) rfl))) (by decide) (backOf (W := 0) (rmSL l Z a0 hw [] b7 p0 p1 p2 ((4660134898793709568 : UInt64)) ((4620130267728707584 : UInt64)) ((4615626668101337088 : UInt64)) T10.heap n0 f12 f13 q10_0 q10_1 q10_2 G7) hZ (hw _ (List.mem_of_getElem? (i := 58) rfl)) (hw _ (List.mem_of_getElem? (i := 8) rfl)) (by decide) (by decide)) qa14 qc14 (g := (mkF m 55 #[.val (.int p0), .val (.int p1), .val (.int p2), .val (.int p3), .val (.int p4), .val (.int p5), .val (.double (own_pos p0)), .second, .val (.double (own_pos p1)), .second, .val (.double (own_pos p2)), .second, .val (.double (own_pos p3)), .second, .val (.double (own_pos p4)), .second, .val (.double (own_pos p5)), .second, .val (.ref b7), .unset, .unset] [(.double (own_pos p2)), (.double (own_pos p1)), (.double (own_pos p0)), (.ref b7)])) rfl (by rw [hml]; rfl) (Steps.refl _) (argsL := [(.double (own_pos p0)), (.double (own_pos p1)), (.double (own_pos p2))]) (rest := []) (lenOf pd__DDD_V rfl) rfl (by show 2 * 0 + _ ≤ _; exact Nat.le_of_eq rfl) (hb hby at_55) (fun _ _ => ⟨rfl, rfl, (by decide : 3 + 0 ≤ _), (by decide : 29 + 0 ≤ _)⟩)
  dsimp only [Pt.U, Pt.locs, Pt.cells, Pt.slots] at X14 l14 y14 z14 st14 hQ14
  subst l14 y14 z14
  obtain ⟨rfl, Nq14, Kq14, q14_0, q14_1, q14_2⟩ := hQ14
  have N14 := Fr.app N10 Nq14
  have K15 : Keep h0 T14.heap [] := K11.trans Kq14 (allS (Or.inr B7) all0)
  refine own_tr st14 ?_
  show own_Go p e below T14 (mkF m 58 #[.val (.int p0), .val (.int p1), .val (.int p2), .val (.int p3), .val (.int p4), .val (.int p5), .val (.double (own_pos p0)), .second, .val (.double (own_pos p1)), .second, .val (.double (own_pos p2)), .second, .val (.double (own_pos p3)), .second, .val (.double (own_pos p4)), .second, .val (.double (own_pos p5)), .second, .val (.ref b7), .unset, .unset] []) _
  refine own_st (fun t_ k_ => XS.aload X14.here hx rfl (hb hby at_58) rfl rfl k_) ?_
  show own_Go p e below T14 (mkF m 60 #[.val (.int p0), .val (.int p1), .val (.int p2), .val (.int p3), .val (.int p4), .val (.int p5), .val (.double (own_pos p0)), .second, .val (.double (own_pos p1)), .second, .val (.double (own_pos p2)), .second, .val (.double (own_pos p3)), .second, .val (.double (own_pos p4)), .second, .val (.double (own_pos p5)), .second, .val (.ref b7), .unset, .unset] [(.ref b7)]) _
  have f16 := (Nat.le_trans f12 Kq14.1)
  have f18 := (f13.keep Kq14)
  obtain ⟨cq17, kq17, qa17, qb17, qc17⟩ := isOf hZ rfl f18
  obtain ⟨_, _, ⟨T17, L17, k17, n17⟩, -, X17, ⟨Lc17, hQ17, l17, y17, z17⟩, st17⟩ := X14.virtualBack hx (y := (⟨"com/example/spillback/spillback/model/Network", "capacityPeriod", "()D"⟩ : MethodName)) (z := (⟨"com/example/spillback/spillback/model/Network", "capacityPeriod", "()D"⟩ : MethodName)) hown (mvT hZ (hw _ (List.mem_of_getElem? (i := 59) rfl))) (mvT hZ (hw _ (List.mem_of_getElem? (i := 60) rfl))) (notFace_of_selects (args := #[]) (mvT hZ (hw _ (List.mem_of_getElem? (i := 62) rfl)))) (mvT hZ (hw _ (List.mem_of_getElem? (i := 62) rfl))) (mvT hZ (hw _ (List.mem_of_getElem? (i := 61) rfl))) (by decide) (backOf (W := 0) (rm_capacityPeriod l Z a0 hw [] b7 ((own_pos p0)) T14.heap n0 f16 q14_0) hZ (hw _ (List.mem_of_getElem? (i := 63) rfl)) (hw _ (List.mem_of_getElem? (i := 8) rfl)) (by decide) (by decide)) qa17 qc17 (g := (mkF m 60 #[.val (.int p0), .val (.int p1), .val (.int p2), .val (.int p3), .val (.int p4), .val (.int p5), .val (.double (own_pos p0)), .second, .val (.double (own_pos p1)), .second, .val (.double (own_pos p2)), .second, .val (.double (own_pos p3)), .second, .val (.double (own_pos p4)), .second, .val (.double (own_pos p5)), .second, .val (.ref b7), .unset, .unset] [(.ref b7)])) rfl (by rw [hml]; rfl) (Steps.refl _) (argsL := []) (rest := []) (lenOf pd___D rfl) rfl (by show 2 * 0 + _ ≤ _; exact Nat.le_of_eq rfl) (hb hby at_60) (fun _ _ => ⟨rfl, rfl, (by decide : 3 + 0 ≤ _), (by decide : 29 + 0 ≤ _)⟩)
  dsimp only [Pt.U, Pt.locs, Pt.cells, Pt.slots] at X17 l17 y17 z17 st17 hQ17
  subst l17 y17 z17
  obtain ⟨rfl, Nq17, eH17⟩ := hQ17
  have N17 := Fr.app N14 Nq17
  refine own_tr st17 ?_
  show own_Go p e below T17 (mkF m 63 #[.val (.int p0), .val (.int p1), .val (.int p2), .val (.int p3), .val (.int p4), .val (.int p5), .val (.double (own_pos p0)), .second, .val (.double (own_pos p1)), .second, .val (.double (own_pos p2)), .second, .val (.double (own_pos p3)), .second, .val (.double (own_pos p4)), .second, .val (.double (own_pos p5)), .second, .val (.ref b7), .unset, .unset] [(.double (own_pos p0))]) _
  refine own_st (fun t_ k_ => XS.dload X17.here hx rfl (hb hby at_63) rfl k_) ?_
  show own_Go p e below T17 (mkF m 65 #[.val (.int p0), .val (.int p1), .val (.int p2), .val (.int p3), .val (.int p4), .val (.int p5), .val (.double (own_pos p0)), .second, .val (.double (own_pos p1)), .second, .val (.double (own_pos p2)), .second, .val (.double (own_pos p3)), .second, .val (.double (own_pos p4)), .second, .val (.double (own_pos p5)), .second, .val (.ref b7), .unset, .unset] [(.double (own_pos p0)), (.double (own_pos p0))]) _
  refine own_st (fun t_ k_ => XS.dcmpS X17.here hx rfl (hb hby at_65) rfl (dcmpV_self (own_pos_nn p0) _) k_) ?_
  show own_Go p e below T17 (mkF m 66 #[.val (.int p0), .val (.int p1), .val (.int p2), .val (.int p3), .val (.int p4), .val (.int p5), .val (.double (own_pos p0)), .second, .val (.double (own_pos p1)), .second, .val (.double (own_pos p2)), .second, .val (.double (own_pos p3)), .second, .val (.double (own_pos p4)), .second, .val (.double (own_pos p5)), .second, .val (.ref b7), .unset, .unset] [(.int (0 : Int32))]) _
  refine own_st (fun t_ k_ => XS.ifNo X17.here hx rfl (hb hby at_66) rfl (by decide) k_) ?_
  show own_Go p e below T17 (mkF m 69 #[.val (.int p0), .val (.int p1), .val (.int p2), .val (.int p3), .val (.int p4), .val (.int p5), .val (.double (own_pos p0)), .second, .val (.double (own_pos p1)), .second, .val (.double (own_pos p2)), .second, .val (.double (own_pos p3)), .second, .val (.double (own_pos p4)), .second, .val (.double (own_pos p5)), .second, .val (.ref b7), .unset, .unset] []) _
  refine own_st (fun t_ k_ => XS.aload X17.here hx rfl (hb hby at_69) rfl rfl k_) ?_
  show own_Go p e below T17 (mkF m 71 #[.val (.int p0), .val (.int p1), .val (.int p2), .val (.int p3), .val (.int p4), .val (.int p5), .val (.double (own_pos p0)), .second, .val (.double (own_pos p1)), .second, .val (.double (own_pos p2)), .second, .val (.double (own_pos p3)), .second, .val (.double (own_pos p4)), .second, .val (.double (own_pos p5)), .second, .val (.ref b7), .unset, .unset] [(.ref b7)]) _
  obtain ⟨cq19, kq19, qa19, qb19, qc19⟩ := isOf hZ eH17 f18
  obtain ⟨_, _, ⟨T19, L19, k19, n19⟩, -, X19, ⟨Lc19, hQ19, l19, y19, z19⟩, st19⟩ := X17.virtualBack hx (y := (⟨"com/example/spillback/spillback/model/Network", "effectiveCellSize", "()D"⟩ : MethodName)) (z := (⟨"com/example/spillback/spillback/model/Network", "effectiveCellSize", "()D"⟩ : MethodName)) hown (mvT hZ (hw _ (List.mem_of_getElem? (i := 64) rfl))) (mvT hZ (hw _ (List.mem_of_getElem? (i := 65) rfl))) (notFace_of_selects (args := #[]) (mvT hZ (hw _ (List.mem_of_getElem? (i := 67) rfl)))) (mvT hZ (hw _ (List.mem_of_getElem? (i := 67) rfl))) (mvT hZ (hw _ (List.mem_of_getElem? (i := 66) rfl))) (by decide) (backOf (W := 0) (rm_effectiveCellSize l Z a0 hw [] b7 ((own_pos p1)) T14.heap n0 f16 q14_1) hZ (hw _ (List.mem_of_getElem? (i := 68) rfl)) (hw _ (List.mem_of_getElem? (i := 8) rfl)) (by decide) (by decide)) qa19 qc19 (g := (mkF m 71 #[.val (.int p0), .val (.int p1), .val (.int p2), .val (.int p3), .val (.int p4), .val (.int p5), .val (.double (own_pos p0)), .second, .val (.double (own_pos p1)), .second, .val (.double (own_pos p2)), .second, .val (.double (own_pos p3)), .second, .val (.double (own_pos p4)), .second, .val (.double (own_pos p5)), .second, .val (.ref b7), .unset, .unset] [(.ref b7)])) rfl (by rw [hml]; rfl) (Steps.refl _) (argsL := []) (rest := []) (lenOf pd___D rfl) rfl (by show 2 * 0 + _ ≤ _; exact Nat.le_of_eq rfl) (hb hby at_71) (fun _ _ => ⟨rfl, eH17, (by decide : 3 + 0 ≤ _), (by decide : 29 + 0 ≤ _)⟩)
  dsimp only [Pt.U, Pt.locs, Pt.cells, Pt.slots] at X19 l19 y19 z19 st19 hQ19
  subst l19 y19 z19
  obtain ⟨rfl, Nq19, eH19⟩ := hQ19
  have N19 := Fr.app N17 Nq19
  refine own_tr st19 ?_
  show own_Go p e below T19 (mkF m 74 #[.val (.int p0), .val (.int p1), .val (.int p2), .val (.int p3), .val (.int p4), .val (.int p5), .val (.double (own_pos p0)), .second, .val (.double (own_pos p1)), .second, .val (.double (own_pos p2)), .second, .val (.double (own_pos p3)), .second, .val (.double (own_pos p4)), .second, .val (.double (own_pos p5)), .second, .val (.ref b7), .unset, .unset] [(.double (own_pos p1))]) _
  refine own_st (fun t_ k_ => XS.dload X19.here hx rfl (hb hby at_74) rfl k_) ?_
  show own_Go p e below T19 (mkF m 76 #[.val (.int p0), .val (.int p1), .val (.int p2), .val (.int p3), .val (.int p4), .val (.int p5), .val (.double (own_pos p0)), .second, .val (.double (own_pos p1)), .second, .val (.double (own_pos p2)), .second, .val (.double (own_pos p3)), .second, .val (.double (own_pos p4)), .second, .val (.double (own_pos p5)), .second, .val (.ref b7), .unset, .unset] [(.double (own_pos p1)), (.double (own_pos p1))]) _
  refine own_st (fun t_ k_ => XS.dcmpS X19.here hx rfl (hb hby at_76) rfl (dcmpV_self (own_pos_nn p1) _) k_) ?_
  show own_Go p e below T19 (mkF m 77 #[.val (.int p0), .val (.int p1), .val (.int p2), .val (.int p3), .val (.int p4), .val (.int p5), .val (.double (own_pos p0)), .second, .val (.double (own_pos p1)), .second, .val (.double (own_pos p2)), .second, .val (.double (own_pos p3)), .second, .val (.double (own_pos p4)), .second, .val (.double (own_pos p5)), .second, .val (.ref b7), .unset, .unset] [(.int (0 : Int32))]) _
  refine own_st (fun t_ k_ => XS.ifNo X19.here hx rfl (hb hby at_77) rfl (by decide) k_) ?_
  show own_Go p e below T19 (mkF m 80 #[.val (.int p0), .val (.int p1), .val (.int p2), .val (.int p3), .val (.int p4), .val (.int p5), .val (.double (own_pos p0)), .second, .val (.double (own_pos p1)), .second, .val (.double (own_pos p2)), .second, .val (.double (own_pos p3)), .second, .val (.double (own_pos p4)), .second, .val (.double (own_pos p5)), .second, .val (.ref b7), .unset, .unset] []) _
  refine own_st (fun t_ k_ => XS.aload X19.here hx rfl (hb hby at_80) rfl rfl k_) ?_
  show own_Go p e below T19 (mkF m 82 #[.val (.int p0), .val (.int p1), .val (.int p2), .val (.int p3), .val (.int p4), .val (.int p5), .val (.double (own_pos p0)), .second, .val (.double (own_pos p1)), .second, .val (.double (own_pos p2)), .second, .val (.double (own_pos p3)), .second, .val (.double (own_pos p4)), .second, .val (.double (own_pos p5)), .second, .val (.ref b7), .unset, .unset] [(.ref b7)]) _
  obtain ⟨cq20, kq20, qa20, qb20, qc20⟩ := isOf hZ eH19 f18
  obtain ⟨_, _, ⟨T20, L20, k20, n20⟩, -, X20, ⟨Lc20, hQ20, l20, y20, z20⟩, st20⟩ := X19.virtualBack hx (y := (⟨"com/example/spillback/spillback/model/Network", "effectiveLaneWidth", "()D"⟩ : MethodName)) (z := (⟨"com/example/spillback/spillback/model/Network", "effectiveLaneWidth", "()D"⟩ : MethodName)) hown (mvT hZ (hw _ (List.mem_of_getElem? (i := 69) rfl))) (mvT hZ (hw _ (List.mem_of_getElem? (i := 70) rfl))) (notFace_of_selects (args := #[]) (mvT hZ (hw _ (List.mem_of_getElem? (i := 72) rfl)))) (mvT hZ (hw _ (List.mem_of_getElem? (i := 72) rfl))) (mvT hZ (hw _ (List.mem_of_getElem? (i := 71) rfl))) (by decide) (backOf (W := 0) (rm_effectiveLaneWidth l Z a0 hw [] b7 ((own_pos p2)) T14.heap n0 f16 q14_2) hZ (hw _ (List.mem_of_getElem? (i := 73) rfl)) (hw _ (List.mem_of_getElem? (i := 8) rfl)) (by decide) (by decide)) qa20 qc20 (g := (mkF m 82 #[.val (.int p0), .val (.int p1), .val (.int p2), .val (.int p3), .val (.int p4), .val (.int p5), .val (.double (own_pos p0)), .second, .val (.double (own_pos p1)), .second, .val (.double (own_pos p2)), .second, .val (.double (own_pos p3)), .second, .val (.double (own_pos p4)), .second, .val (.double (own_pos p5)), .second, .val (.ref b7), .unset, .unset] [(.ref b7)])) rfl (by rw [hml]; rfl) (Steps.refl _) (argsL := []) (rest := []) (lenOf pd___D rfl) rfl (by show 2 * 0 + _ ≤ _; exact Nat.le_of_eq rfl) (hb hby at_82) (fun _ _ => ⟨rfl, eH19, (by decide : 3 + 0 ≤ _), (by decide : 29 + 0 ≤ _)⟩)
  dsimp only [Pt.U, Pt.locs, Pt.cells, Pt.slots] at X20 l20 y20 z20 st20 hQ20
  subst l20 y20 z20
  obtain ⟨rfl, Nq20, eH20⟩ := hQ20
  have N20 := Fr.app N19 Nq20
  refine own_tr st20 ?_
  show own_Go p e below T20 (mkF m 85 #[.val (.int p0), .val (.int p1), .val (.int p2), .val (.int p3), .val (.int p4), .val (.int p5), .val (.double (own_pos p0)), .second, .val (.double (own_pos p1)), .second, .val (.double (own_pos p2)), .second, .val (.double (own_pos p3)), .second, .val (.double (own_pos p4)), .second, .val (.double (own_pos p5)), .second, .val (.ref b7), .unset, .unset] [(.double (own_pos p2))]) _
  refine own_st (fun t_ k_ => XS.dload X20.here hx rfl (hb hby at_85) rfl k_) ?_
  show own_Go p e below T20 (mkF m 87 #[.val (.int p0), .val (.int p1), .val (.int p2), .val (.int p3), .val (.int p4), .val (.int p5), .val (.double (own_pos p0)), .second, .val (.double (own_pos p1)), .second, .val (.double (own_pos p2)), .second, .val (.double (own_pos p3)), .second, .val (.double (own_pos p4)), .second, .val (.double (own_pos p5)), .second, .val (.ref b7), .unset, .unset] [(.double (own_pos p2)), (.double (own_pos p2))]) _
  refine own_st (fun t_ k_ => XS.dcmpS X20.here hx rfl (hb hby at_87) rfl (dcmpV_self (own_pos_nn p2) _) k_) ?_
  show own_Go p e below T20 (mkF m 88 #[.val (.int p0), .val (.int p1), .val (.int p2), .val (.int p3), .val (.int p4), .val (.int p5), .val (.double (own_pos p0)), .second, .val (.double (own_pos p1)), .second, .val (.double (own_pos p2)), .second, .val (.double (own_pos p3)), .second, .val (.double (own_pos p4)), .second, .val (.double (own_pos p5)), .second, .val (.ref b7), .unset, .unset] [(.int (0 : Int32))]) _
  refine own_st (fun t_ k_ => XS.ifNo X20.here hx rfl (hb hby at_88) rfl (by decide) k_) ?_
  show own_Go p e below T20 (mkF m 91 #[.val (.int p0), .val (.int p1), .val (.int p2), .val (.int p3), .val (.int p4), .val (.int p5), .val (.double (own_pos p0)), .second, .val (.double (own_pos p1)), .second, .val (.double (own_pos p2)), .second, .val (.double (own_pos p3)), .second, .val (.double (own_pos p4)), .second, .val (.double (own_pos p5)), .second, .val (.ref b7), .unset, .unset] []) _
  refine own_st (fun t_ k_ => XS.iconst X20.here hx rfl (hb hby at_91) k_) ?_
  show own_Go p e below T20 (mkF m 92 #[.val (.int p0), .val (.int p1), .val (.int p2), .val (.int p3), .val (.int p4), .val (.int p5), .val (.double (own_pos p0)), .second, .val (.double (own_pos p1)), .second, .val (.double (own_pos p2)), .second, .val (.double (own_pos p3)), .second, .val (.double (own_pos p4)), .second, .val (.double (own_pos p5)), .second, .val (.ref b7), .unset, .unset] [(.int (1 : Int32))]) _
  refine own_st (fun t_ k_ => XS.goto X20.here hx rfl (pc0 := 92) (pc' := 96) rfl (hb hby at_92) (by decide) (by decide) k_) ?_
  show own_Go p e below T20 (mkF m 96 #[.val (.int p0), .val (.int p1), .val (.int p2), .val (.int p3), .val (.int p4), .val (.int p5), .val (.double (own_pos p0)), .second, .val (.double (own_pos p1)), .second, .val (.double (own_pos p2)), .second, .val (.double (own_pos p3)), .second, .val (.double (own_pos p4)), .second, .val (.double (own_pos p5)), .second, .val (.ref b7), .unset, .unset] [(.int (1 : Int32))]) _
  refine own_st (fun t_ k_ => XS.istore X20.here hx rfl (hb hby at_96) rfl (l' := #[.val (.int p0), .val (.int p1), .val (.int p2), .val (.int p3), .val (.int p4), .val (.int p5), .val (.double (own_pos p0)), .second, .val (.double (own_pos p1)), .second, .val (.double (own_pos p2)), .second, .val (.double (own_pos p3)), .second, .val (.double (own_pos p4)), .second, .val (.double (own_pos p5)), .second, .val (.ref b7), .val (.int (1 : Int32)), .unset]) rfl k_) ?_
  show own_Go p e below T20 (mkF m 98 #[.val (.int p0), .val (.int p1), .val (.int p2), .val (.int p3), .val (.int p4), .val (.int p5), .val (.double (own_pos p0)), .second, .val (.double (own_pos p1)), .second, .val (.double (own_pos p2)), .second, .val (.double (own_pos p3)), .second, .val (.double (own_pos p4)), .second, .val (.double (own_pos p5)), .second, .val (.ref b7), .val (.int (1 : Int32)), .unset] []) _
  refine own_st (fun t_ k_ => XS.aload X20.here hx rfl (hb hby at_98) rfl rfl k_) ?_
  show own_Go p e below T20 (mkF m 100 #[.val (.int p0), .val (.int p1), .val (.int p2), .val (.int p3), .val (.int p4), .val (.int p5), .val (.double (own_pos p0)), .second, .val (.double (own_pos p1)), .second, .val (.double (own_pos p2)), .second, .val (.double (own_pos p3)), .second, .val (.double (own_pos p4)), .second, .val (.double (own_pos p5)), .second, .val (.ref b7), .val (.int (1 : Int32)), .unset] [(.ref b7)]) _
  refine own_st (fun t_ k_ => XS.dload X20.here hx rfl (hb hby at_100) rfl k_) ?_
  show own_Go p e below T20 (mkF m 102 #[.val (.int p0), .val (.int p1), .val (.int p2), .val (.int p3), .val (.int p4), .val (.int p5), .val (.double (own_pos p0)), .second, .val (.double (own_pos p1)), .second, .val (.double (own_pos p2)), .second, .val (.double (own_pos p3)), .second, .val (.double (own_pos p4)), .second, .val (.double (own_pos p5)), .second, .val (.ref b7), .val (.int (1 : Int32)), .unset] [(.double (own_pos p3)), (.ref b7)]) _
  refine own_st (fun t_ k_ => XS.dload X20.here hx rfl (hb hby at_102) rfl k_) ?_
  show own_Go p e below T20 (mkF m 104 #[.val (.int p0), .val (.int p1), .val (.int p2), .val (.int p3), .val (.int p4), .val (.int p5), .val (.double (own_pos p0)), .second, .val (.double (own_pos p1)), .second, .val (.double (own_pos p2)), .second, .val (.double (own_pos p3)), .second, .val (.double (own_pos p4)), .second, .val (.double (own_pos p5)), .second, .val (.ref b7), .val (.int (1 : Int32)), .unset] [(.double (own_pos p4)), (.double (own_pos p3)), (.ref b7)]) _
  refine own_st (fun t_ k_ => XS.dload X20.here hx rfl (hb hby at_104) rfl k_) ?_
  show own_Go p e below T20 (mkF m 106 #[.val (.int p0), .val (.int p1), .val (.int p2), .val (.int p3), .val (.int p4), .val (.int p5), .val (.double (own_pos p0)), .second, .val (.double (own_pos p1)), .second, .val (.double (own_pos p2)), .second, .val (.double (own_pos p3)), .second, .val (.double (own_pos p4)), .second, .val (.double (own_pos p5)), .second, .val (.ref b7), .val (.int (1 : Int32)), .unset] [(.double (own_pos p5)), (.double (own_pos p4)), (.double (own_pos p3)), (.ref b7)]) _
  obtain ⟨cq21, kq21, qa21, qb21, qc21⟩ := isOf hZ eH20 f18
  obtain ⟨_, _, ⟨T21, L21, k21, n21⟩, -, X21, ⟨Lc21, hQ21, l21, y21, z21⟩, st21⟩ := X20.virtualBack hx (y := (⟨"com/example/spillback/spillback/model/Network", "setLinkParameters", "(DDD)V"⟩ : MethodName)) (z := (⟨"com/example/spillback/spillback/model/Network", "setLinkParameters", "(DDD)V"⟩ : MethodName)) hown (mvT hZ (hw _ (List.mem_of_getElem? (i := 54) rfl))) (mvT hZ (hw _ (List.mem_of_getElem? (i := 55) rfl))) (notFace_of_selects (args := #[]) (mvT hZ (hw _ (List.mem_of_getElem? (i := 57) rfl)))) (mvT hZ (hw _ (List.mem_of_getElem? (i := 57) rfl))) (mvT hZ (hw _ (List.mem_of_getElem? (i := 56) rfl))) (by decide) (backOf (W := 0) (rmSL l Z a0 hw [] b7 p3 p4 p5 ((own_pos p0)) ((own_pos p1)) ((own_pos p2)) T14.heap n0 f16 f18 q14_0 q14_1 q14_2 G7) hZ (hw _ (List.mem_of_getElem? (i := 58) rfl)) (hw _ (List.mem_of_getElem? (i := 8) rfl)) (by decide) (by decide)) qa21 qc21 (g := (mkF m 106 #[.val (.int p0), .val (.int p1), .val (.int p2), .val (.int p3), .val (.int p4), .val (.int p5), .val (.double (own_pos p0)), .second, .val (.double (own_pos p1)), .second, .val (.double (own_pos p2)), .second, .val (.double (own_pos p3)), .second, .val (.double (own_pos p4)), .second, .val (.double (own_pos p5)), .second, .val (.ref b7), .val (.int (1 : Int32)), .unset] [(.double (own_pos p5)), (.double (own_pos p4)), (.double (own_pos p3)), (.ref b7)])) rfl (by rw [hml]; rfl) (Steps.refl _) (argsL := [(.double (own_pos p3)), (.double (own_pos p4)), (.double (own_pos p5))]) (rest := []) (lenOf pd__DDD_V rfl) rfl (by show 2 * 0 + _ ≤ _; exact Nat.le_of_eq rfl) (hb hby at_106) (fun _ _ => ⟨rfl, eH20, (by decide : 3 + 0 ≤ _), (by decide : 29 + 0 ≤ _)⟩)
  dsimp only [Pt.U, Pt.locs, Pt.cells, Pt.slots] at X21 l21 y21 z21 st21 hQ21
  subst l21 y21 z21
  obtain ⟨rfl, Nq21, Kq21, q21_0, q21_1, q21_2⟩ := hQ21
  have N21 := Fr.app N20 Nq21
  have K22 : Keep h0 T21.heap [] := K15.trans Kq21 (allS (Or.inr B7) all0)
  refine own_tr st21 ?_
  show own_Go p e below T21 (mkF m 109 #[.val (.int p0), .val (.int p1), .val (.int p2), .val (.int p3), .val (.int p4), .val (.int p5), .val (.double (own_pos p0)), .second, .val (.double (own_pos p1)), .second, .val (.double (own_pos p2)), .second, .val (.double (own_pos p3)), .second, .val (.double (own_pos p4)), .second, .val (.double (own_pos p5)), .second, .val (.ref b7), .val (.int (1 : Int32)), .unset] []) _
  refine own_st (fun t_ k_ => XS.aload X21.here hx rfl (hb hby at_109) rfl rfl k_) ?_
  show own_Go p e below T21 (mkF m 111 #[.val (.int p0), .val (.int p1), .val (.int p2), .val (.int p3), .val (.int p4), .val (.int p5), .val (.double (own_pos p0)), .second, .val (.double (own_pos p1)), .second, .val (.double (own_pos p2)), .second, .val (.double (own_pos p3)), .second, .val (.double (own_pos p4)), .second, .val (.double (own_pos p5)), .second, .val (.ref b7), .val (.int (1 : Int32)), .unset] [(.ref b7)]) _
  have f23 := (Nat.le_trans f16 Kq21.1)
  have f25 := (f18.keep Kq21)
  obtain ⟨cq24, kq24, qa24, qb24, qc24⟩ := isOf hZ rfl f25
  obtain ⟨_, _, ⟨T24, L24, k24, n24⟩, -, X24, ⟨Lc24, hQ24, l24, y24, z24⟩, st24⟩ := X21.virtualBack hx (y := (⟨"com/example/spillback/spillback/model/Network", "capacityPeriod", "()D"⟩ : MethodName)) (z := (⟨"com/example/spillback/spillback/model/Network", "capacityPeriod", "()D"⟩ : MethodName)) hown (mvT hZ (hw _ (List.mem_of_getElem? (i := 59) rfl))) (mvT hZ (hw _ (List.mem_of_getElem? (i := 60) rfl))) (notFace_of_selects (args := #[]) (mvT hZ (hw _ (List.mem_of_getElem? (i := 62) rfl)))) (mvT hZ (hw _ (List.mem_of_getElem? (i := 62) rfl))) (mvT hZ (hw _ (List.mem_of_getElem? (i := 61) rfl))) (by decide) (backOf (W := 0) (rm_capacityPeriod l Z a0 hw [] b7 ((own_pos p3)) T21.heap n0 f23 q21_0) hZ (hw _ (List.mem_of_getElem? (i := 63) rfl)) (hw _ (List.mem_of_getElem? (i := 8) rfl)) (by decide) (by decide)) qa24 qc24 (g := (mkF m 111 #[.val (.int p0), .val (.int p1), .val (.int p2), .val (.int p3), .val (.int p4), .val (.int p5), .val (.double (own_pos p0)), .second, .val (.double (own_pos p1)), .second, .val (.double (own_pos p2)), .second, .val (.double (own_pos p3)), .second, .val (.double (own_pos p4)), .second, .val (.double (own_pos p5)), .second, .val (.ref b7), .val (.int (1 : Int32)), .unset] [(.ref b7)])) rfl (by rw [hml]; rfl) (Steps.refl _) (argsL := []) (rest := []) (lenOf pd___D rfl) rfl (by show 2 * 0 + _ ≤ _; exact Nat.le_of_eq rfl) (hb hby at_111) (fun _ _ => ⟨rfl, rfl, (by decide : 3 + 0 ≤ _), (by decide : 29 + 0 ≤ _)⟩)
  dsimp only [Pt.U, Pt.locs, Pt.cells, Pt.slots] at X24 l24 y24 z24 st24 hQ24
  subst l24 y24 z24
  obtain ⟨rfl, Nq24, eH24⟩ := hQ24
  have N24 := Fr.app N21 Nq24
  refine own_tr st24 ?_
  show own_Go p e below T24 (mkF m 114 #[.val (.int p0), .val (.int p1), .val (.int p2), .val (.int p3), .val (.int p4), .val (.int p5), .val (.double (own_pos p0)), .second, .val (.double (own_pos p1)), .second, .val (.double (own_pos p2)), .second, .val (.double (own_pos p3)), .second, .val (.double (own_pos p4)), .second, .val (.double (own_pos p5)), .second, .val (.ref b7), .val (.int (1 : Int32)), .unset] [(.double (own_pos p3))]) _
  refine own_st (fun t_ k_ => XS.dload X24.here hx rfl (hb hby at_114) rfl k_) ?_
  show own_Go p e below T24 (mkF m 116 #[.val (.int p0), .val (.int p1), .val (.int p2), .val (.int p3), .val (.int p4), .val (.int p5), .val (.double (own_pos p0)), .second, .val (.double (own_pos p1)), .second, .val (.double (own_pos p2)), .second, .val (.double (own_pos p3)), .second, .val (.double (own_pos p4)), .second, .val (.double (own_pos p5)), .second, .val (.ref b7), .val (.int (1 : Int32)), .unset] [(.double (own_pos p3)), (.double (own_pos p3))]) _
  refine own_st (fun t_ k_ => XS.dcmpS X24.here hx rfl (hb hby at_116) rfl (dcmpV_self (own_pos_nn p3) _) k_) ?_
  show own_Go p e below T24 (mkF m 117 #[.val (.int p0), .val (.int p1), .val (.int p2), .val (.int p3), .val (.int p4), .val (.int p5), .val (.double (own_pos p0)), .second, .val (.double (own_pos p1)), .second, .val (.double (own_pos p2)), .second, .val (.double (own_pos p3)), .second, .val (.double (own_pos p4)), .second, .val (.double (own_pos p5)), .second, .val (.ref b7), .val (.int (1 : Int32)), .unset] [(.int (0 : Int32))]) _
  refine own_st (fun t_ k_ => XS.ifNo X24.here hx rfl (hb hby at_117) rfl (by decide) k_) ?_
  show own_Go p e below T24 (mkF m 120 #[.val (.int p0), .val (.int p1), .val (.int p2), .val (.int p3), .val (.int p4), .val (.int p5), .val (.double (own_pos p0)), .second, .val (.double (own_pos p1)), .second, .val (.double (own_pos p2)), .second, .val (.double (own_pos p3)), .second, .val (.double (own_pos p4)), .second, .val (.double (own_pos p5)), .second, .val (.ref b7), .val (.int (1 : Int32)), .unset] []) _
  refine own_st (fun t_ k_ => XS.aload X24.here hx rfl (hb hby at_120) rfl rfl k_) ?_
  show own_Go p e below T24 (mkF m 122 #[.val (.int p0), .val (.int p1), .val (.int p2), .val (.int p3), .val (.int p4), .val (.int p5), .val (.double (own_pos p0)), .second, .val (.double (own_pos p1)), .second, .val (.double (own_pos p2)), .second, .val (.double (own_pos p3)), .second, .val (.double (own_pos p4)), .second, .val (.double (own_pos p5)), .second, .val (.ref b7), .val (.int (1 : Int32)), .unset] [(.ref b7)]) _
  obtain ⟨cq26, kq26, qa26, qb26, qc26⟩ := isOf hZ eH24 f25
  obtain ⟨_, _, ⟨T26, L26, k26, n26⟩, -, X26, ⟨Lc26, hQ26, l26, y26, z26⟩, st26⟩ := X24.virtualBack hx (y := (⟨"com/example/spillback/spillback/model/Network", "effectiveCellSize", "()D"⟩ : MethodName)) (z := (⟨"com/example/spillback/spillback/model/Network", "effectiveCellSize", "()D"⟩ : MethodName)) hown (mvT hZ (hw _ (List.mem_of_getElem? (i := 64) rfl))) (mvT hZ (hw _ (List.mem_of_getElem? (i := 65) rfl))) (notFace_of_selects (args := #[]) (mvT hZ (hw _ (List.mem_of_getElem? (i := 67) rfl)))) (mvT hZ (hw _ (List.mem_of_getElem? (i := 67) rfl))) (mvT hZ (hw _ (List.mem_of_getElem? (i := 66) rfl))) (by decide) (backOf (W := 0) (rm_effectiveCellSize l Z a0 hw [] b7 ((own_pos p4)) T21.heap n0 f23 q21_1) hZ (hw _ (List.mem_of_getElem? (i := 68) rfl)) (hw _ (List.mem_of_getElem? (i := 8) rfl)) (by decide) (by decide)) qa26 qc26 (g := (mkF m 122 #[.val (.int p0), .val (.int p1), .val (.int p2), .val (.int p3), .val (.int p4), .val (.int p5), .val (.double (own_pos p0)), .second, .val (.double (own_pos p1)), .second, .val (.double (own_pos p2)), .second, .val (.double (own_pos p3)), .second, .val (.double (own_pos p4)), .second, .val (.double (own_pos p5)), .second, .val (.ref b7), .val (.int (1 : Int32)), .unset] [(.ref b7)])) rfl (by rw [hml]; rfl) (Steps.refl _) (argsL := []) (rest := []) (lenOf pd___D rfl) rfl (by show 2 * 0 + _ ≤ _; exact Nat.le_of_eq rfl) (hb hby at_122) (fun _ _ => ⟨rfl, eH24, (by decide : 3 + 0 ≤ _), (by decide : 29 + 0 ≤ _)⟩)
  dsimp only [Pt.U, Pt.locs, Pt.cells, Pt.slots] at X26 l26 y26 z26 st26 hQ26
  subst l26 y26 z26
  obtain ⟨rfl, Nq26, eH26⟩ := hQ26
  have N26 := Fr.app N24 Nq26
  refine own_tr st26 ?_
  show own_Go p e below T26 (mkF m 125 #[.val (.int p0), .val (.int p1), .val (.int p2), .val (.int p3), .val (.int p4), .val (.int p5), .val (.double (own_pos p0)), .second, .val (.double (own_pos p1)), .second, .val (.double (own_pos p2)), .second, .val (.double (own_pos p3)), .second, .val (.double (own_pos p4)), .second, .val (.double (own_pos p5)), .second, .val (.ref b7), .val (.int (1 : Int32)), .unset] [(.double (own_pos p4))]) _
  refine own_st (fun t_ k_ => XS.dload X26.here hx rfl (hb hby at_125) rfl k_) ?_
  show own_Go p e below T26 (mkF m 127 #[.val (.int p0), .val (.int p1), .val (.int p2), .val (.int p3), .val (.int p4), .val (.int p5), .val (.double (own_pos p0)), .second, .val (.double (own_pos p1)), .second, .val (.double (own_pos p2)), .second, .val (.double (own_pos p3)), .second, .val (.double (own_pos p4)), .second, .val (.double (own_pos p5)), .second, .val (.ref b7), .val (.int (1 : Int32)), .unset] [(.double (own_pos p4)), (.double (own_pos p4))]) _
  refine own_st (fun t_ k_ => XS.dcmpS X26.here hx rfl (hb hby at_127) rfl (dcmpV_self (own_pos_nn p4) _) k_) ?_
  show own_Go p e below T26 (mkF m 128 #[.val (.int p0), .val (.int p1), .val (.int p2), .val (.int p3), .val (.int p4), .val (.int p5), .val (.double (own_pos p0)), .second, .val (.double (own_pos p1)), .second, .val (.double (own_pos p2)), .second, .val (.double (own_pos p3)), .second, .val (.double (own_pos p4)), .second, .val (.double (own_pos p5)), .second, .val (.ref b7), .val (.int (1 : Int32)), .unset] [(.int (0 : Int32))]) _
  refine own_st (fun t_ k_ => XS.ifNo X26.here hx rfl (hb hby at_128) rfl (by decide) k_) ?_
  show own_Go p e below T26 (mkF m 131 #[.val (.int p0), .val (.int p1), .val (.int p2), .val (.int p3), .val (.int p4), .val (.int p5), .val (.double (own_pos p0)), .second, .val (.double (own_pos p1)), .second, .val (.double (own_pos p2)), .second, .val (.double (own_pos p3)), .second, .val (.double (own_pos p4)), .second, .val (.double (own_pos p5)), .second, .val (.ref b7), .val (.int (1 : Int32)), .unset] []) _
  refine own_st (fun t_ k_ => XS.aload X26.here hx rfl (hb hby at_131) rfl rfl k_) ?_
  show own_Go p e below T26 (mkF m 133 #[.val (.int p0), .val (.int p1), .val (.int p2), .val (.int p3), .val (.int p4), .val (.int p5), .val (.double (own_pos p0)), .second, .val (.double (own_pos p1)), .second, .val (.double (own_pos p2)), .second, .val (.double (own_pos p3)), .second, .val (.double (own_pos p4)), .second, .val (.double (own_pos p5)), .second, .val (.ref b7), .val (.int (1 : Int32)), .unset] [(.ref b7)]) _
  obtain ⟨cq27, kq27, qa27, qb27, qc27⟩ := isOf hZ eH26 f25
  obtain ⟨_, _, ⟨T27, L27, k27, n27⟩, -, X27, ⟨Lc27, hQ27, l27, y27, z27⟩, st27⟩ := X26.virtualBack hx (y := (⟨"com/example/spillback/spillback/model/Network", "effectiveLaneWidth", "()D"⟩ : MethodName)) (z := (⟨"com/example/spillback/spillback/model/Network", "effectiveLaneWidth", "()D"⟩ : MethodName)) hown (mvT hZ (hw _ (List.mem_of_getElem? (i := 69) rfl))) (mvT hZ (hw _ (List.mem_of_getElem? (i := 70) rfl))) (notFace_of_selects (args := #[]) (mvT hZ (hw _ (List.mem_of_getElem? (i := 72) rfl)))) (mvT hZ (hw _ (List.mem_of_getElem? (i := 72) rfl))) (mvT hZ (hw _ (List.mem_of_getElem? (i := 71) rfl))) (by decide) (backOf (W := 0) (rm_effectiveLaneWidth l Z a0 hw [] b7 ((own_pos p5)) T21.heap n0 f23 q21_2) hZ (hw _ (List.mem_of_getElem? (i := 73) rfl)) (hw _ (List.mem_of_getElem? (i := 8) rfl)) (by decide) (by decide)) qa27 qc27 (g := (mkF m 133 #[.val (.int p0), .val (.int p1), .val (.int p2), .val (.int p3), .val (.int p4), .val (.int p5), .val (.double (own_pos p0)), .second, .val (.double (own_pos p1)), .second, .val (.double (own_pos p2)), .second, .val (.double (own_pos p3)), .second, .val (.double (own_pos p4)), .second, .val (.double (own_pos p5)), .second, .val (.ref b7), .val (.int (1 : Int32)), .unset] [(.ref b7)])) rfl (by rw [hml]; rfl) (Steps.refl _) (argsL := []) (rest := []) (lenOf pd___D rfl) rfl (by show 2 * 0 + _ ≤ _; exact Nat.le_of_eq rfl) (hb hby at_133) (fun _ _ => ⟨rfl, eH26, (by decide : 3 + 0 ≤ _), (by decide : 29 + 0 ≤ _)⟩)
  dsimp only [Pt.U, Pt.locs, Pt.cells, Pt.slots] at X27 l27 y27 z27 st27 hQ27
  subst l27 y27 z27
  obtain ⟨rfl, Nq27, eH27⟩ := hQ27
  have N27 := Fr.app N26 Nq27
  refine own_tr st27 ?_
  show own_Go p e below T27 (mkF m 136 #[.val (.int p0), .val (.int p1), .val (.int p2), .val (.int p3), .val (.int p4), .val (.int p5), .val (.double (own_pos p0)), .second, .val (.double (own_pos p1)), .second, .val (.double (own_pos p2)), .second, .val (.double (own_pos p3)), .second, .val (.double (own_pos p4)), .second, .val (.double (own_pos p5)), .second, .val (.ref b7), .val (.int (1 : Int32)), .unset] [(.double (own_pos p5))]) _
  refine own_st (fun t_ k_ => XS.dload X27.here hx rfl (hb hby at_136) rfl k_) ?_
  show own_Go p e below T27 (mkF m 138 #[.val (.int p0), .val (.int p1), .val (.int p2), .val (.int p3), .val (.int p4), .val (.int p5), .val (.double (own_pos p0)), .second, .val (.double (own_pos p1)), .second, .val (.double (own_pos p2)), .second, .val (.double (own_pos p3)), .second, .val (.double (own_pos p4)), .second, .val (.double (own_pos p5)), .second, .val (.ref b7), .val (.int (1 : Int32)), .unset] [(.double (own_pos p5)), (.double (own_pos p5))]) _
  refine own_st (fun t_ k_ => XS.dcmpS X27.here hx rfl (hb hby at_138) rfl (dcmpV_self (own_pos_nn p5) _) k_) ?_
  show own_Go p e below T27 (mkF m 139 #[.val (.int p0), .val (.int p1), .val (.int p2), .val (.int p3), .val (.int p4), .val (.int p5), .val (.double (own_pos p0)), .second, .val (.double (own_pos p1)), .second, .val (.double (own_pos p2)), .second, .val (.double (own_pos p3)), .second, .val (.double (own_pos p4)), .second, .val (.double (own_pos p5)), .second, .val (.ref b7), .val (.int (1 : Int32)), .unset] [(.int (0 : Int32))]) _
  refine own_st (fun t_ k_ => XS.ifNo X27.here hx rfl (hb hby at_139) rfl (by decide) k_) ?_
  show own_Go p e below T27 (mkF m 142 #[.val (.int p0), .val (.int p1), .val (.int p2), .val (.int p3), .val (.int p4), .val (.int p5), .val (.double (own_pos p0)), .second, .val (.double (own_pos p1)), .second, .val (.double (own_pos p2)), .second, .val (.double (own_pos p3)), .second, .val (.double (own_pos p4)), .second, .val (.double (own_pos p5)), .second, .val (.ref b7), .val (.int (1 : Int32)), .unset] []) _
  refine own_st (fun t_ k_ => XS.iconst X27.here hx rfl (hb hby at_142) k_) ?_
  show own_Go p e below T27 (mkF m 143 #[.val (.int p0), .val (.int p1), .val (.int p2), .val (.int p3), .val (.int p4), .val (.int p5), .val (.double (own_pos p0)), .second, .val (.double (own_pos p1)), .second, .val (.double (own_pos p2)), .second, .val (.double (own_pos p3)), .second, .val (.double (own_pos p4)), .second, .val (.double (own_pos p5)), .second, .val (.ref b7), .val (.int (1 : Int32)), .unset] [(.int (1 : Int32))]) _
  refine own_st (fun t_ k_ => XS.goto X27.here hx rfl (pc0 := 143) (pc' := 147) rfl (hb hby at_143) (by decide) (by decide) k_) ?_
  show own_Go p e below T27 (mkF m 147 #[.val (.int p0), .val (.int p1), .val (.int p2), .val (.int p3), .val (.int p4), .val (.int p5), .val (.double (own_pos p0)), .second, .val (.double (own_pos p1)), .second, .val (.double (own_pos p2)), .second, .val (.double (own_pos p3)), .second, .val (.double (own_pos p4)), .second, .val (.double (own_pos p5)), .second, .val (.ref b7), .val (.int (1 : Int32)), .unset] [(.int (1 : Int32))]) _
  refine own_st (fun t_ k_ => XS.istore X27.here hx rfl (hb hby at_147) rfl (l' := #[.val (.int p0), .val (.int p1), .val (.int p2), .val (.int p3), .val (.int p4), .val (.int p5), .val (.double (own_pos p0)), .second, .val (.double (own_pos p1)), .second, .val (.double (own_pos p2)), .second, .val (.double (own_pos p3)), .second, .val (.double (own_pos p4)), .second, .val (.double (own_pos p5)), .second, .val (.ref b7), .val (.int (1 : Int32)), .val (.int (1 : Int32))]) rfl k_) ?_
  show own_Go p e below T27 (mkF m 149 #[.val (.int p0), .val (.int p1), .val (.int p2), .val (.int p3), .val (.int p4), .val (.int p5), .val (.double (own_pos p0)), .second, .val (.double (own_pos p1)), .second, .val (.double (own_pos p2)), .second, .val (.double (own_pos p3)), .second, .val (.double (own_pos p4)), .second, .val (.double (own_pos p5)), .second, .val (.ref b7), .val (.int (1 : Int32)), .val (.int (1 : Int32))] []) _
  refine own_st (fun t_ k_ => XS.iload X27.here hx rfl (hb hby at_149) rfl k_) ?_
  show own_Go p e below T27 (mkF m 151 #[.val (.int p0), .val (.int p1), .val (.int p2), .val (.int p3), .val (.int p4), .val (.int p5), .val (.double (own_pos p0)), .second, .val (.double (own_pos p1)), .second, .val (.double (own_pos p2)), .second, .val (.double (own_pos p3)), .second, .val (.double (own_pos p4)), .second, .val (.double (own_pos p5)), .second, .val (.ref b7), .val (.int (1 : Int32)), .val (.int (1 : Int32))] [(.int (1 : Int32))]) _
  refine own_st (fun t_ k_ => XS.ifNo X27.here hx rfl (hb hby at_151) rfl (by decide) k_) ?_
  show own_Go p e below T27 (mkF m 154 #[.val (.int p0), .val (.int p1), .val (.int p2), .val (.int p3), .val (.int p4), .val (.int p5), .val (.double (own_pos p0)), .second, .val (.double (own_pos p1)), .second, .val (.double (own_pos p2)), .second, .val (.double (own_pos p3)), .second, .val (.double (own_pos p4)), .second, .val (.double (own_pos p5)), .second, .val (.ref b7), .val (.int (1 : Int32)), .val (.int (1 : Int32))] []) _
  refine own_st (fun t_ k_ => XS.iload X27.here hx rfl (hb hby at_154) rfl k_) ?_
  show own_Go p e below T27 (mkF m 156 #[.val (.int p0), .val (.int p1), .val (.int p2), .val (.int p3), .val (.int p4), .val (.int p5), .val (.double (own_pos p0)), .second, .val (.double (own_pos p1)), .second, .val (.double (own_pos p2)), .second, .val (.double (own_pos p3)), .second, .val (.double (own_pos p4)), .second, .val (.double (own_pos p5)), .second, .val (.ref b7), .val (.int (1 : Int32)), .val (.int (1 : Int32))] [(.int (1 : Int32))]) _
  refine own_st (fun t_ k_ => XS.ifNo X27.here hx rfl (hb hby at_156) rfl (by decide) k_) ?_
  show own_Go p e below T27 (mkF m 159 #[.val (.int p0), .val (.int p1), .val (.int p2), .val (.int p3), .val (.int p4), .val (.int p5), .val (.double (own_pos p0)), .second, .val (.double (own_pos p1)), .second, .val (.double (own_pos p2)), .second, .val (.double (own_pos p3)), .second, .val (.double (own_pos p4)), .second, .val (.double (own_pos p5)), .second, .val (.ref b7), .val (.int (1 : Int32)), .val (.int (1 : Int32))] []) _
  refine own_st (fun t_ k_ => XS.iconst X27.here hx rfl (hb hby at_159) k_) ?_
  show own_Go p e below T27 (mkF m 160 #[.val (.int p0), .val (.int p1), .val (.int p2), .val (.int p3), .val (.int p4), .val (.int p5), .val (.double (own_pos p0)), .second, .val (.double (own_pos p1)), .second, .val (.double (own_pos p2)), .second, .val (.double (own_pos p3)), .second, .val (.double (own_pos p4)), .second, .val (.double (own_pos p5)), .second, .val (.ref b7), .val (.int (1 : Int32)), .val (.int (1 : Int32))] [(.int (1 : Int32))]) _
  refine own_st (fun t_ k_ => XS.goto X27.here hx rfl (pc0 := 160) (pc' := 164) rfl (hb hby at_160) (by decide) (by decide) k_) ?_
  show own_Go p e below T27 (mkF m 164 #[.val (.int p0), .val (.int p1), .val (.int p2), .val (.int p3), .val (.int p4), .val (.int p5), .val (.double (own_pos p0)), .second, .val (.double (own_pos p1)), .second, .val (.double (own_pos p2)), .second, .val (.double (own_pos p3)), .second, .val (.double (own_pos p4)), .second, .val (.double (own_pos p5)), .second, .val (.ref b7), .val (.int (1 : Int32)), .val (.int (1 : Int32))] [(.int (1 : Int32))]) _
  obtain ⟨fs, hr, hrun, hended, hW, hsame⟩ := X27.leave (v := some (.int (1 : Int32))) (fun h => by rw [Bd.returns] at h; cases h)
  refine own_fin (retN X27 hx (t := .boolean) Bd.returns (by simp) (hb hby at_164) hr) ⟨hrun, hended, _, _, rfl, ?_, ⟨_, rfl⟩, hW, hsame.mono (by decide) (by decide)⟩
  show Q_rmLaw Z p0 p1 p2 p3 p4 p5 h0 n0 _ T27.heap _
  rw [eH27]
  exact ⟨rfl, N27, K22⟩
set_option maxRecDepth 65536 in
set_option maxHeartbeats 40000000 in
theorem comes_1 {Post : Tables → Env → Array Value → State → Outcome → State → Prop} (hpost : ∀ tb e args s v u, (limb_1_1.after args s (.returned v) u = true ∧ limb_1_2.after args s (.returned v) u = true ∧ True) → FrameEnd s (.returned v) u (Jvm.fieldLocs frame_1_writes args s ++ Jvm.arrayLocs frame_1_arrays args s ++ Jvm.staticLocs frame_1_statics s) 16 128 → Post tb e args s (.returned v) u) :
    ArmFor flags0 classFile x code maxLocals ret World_1 tables_1 room_1 Calls_1 rest_1 Pre_1 Post := by
  intro l hfl _ _ p e ha hc hk s m args below hf hA hF happ hP
  obtain ⟨hcalls, hrest, hpre⟩ := hP
  obtain ⟨-, -, -, hnamed, -, -, -, hat⟩ := (Spec.applies_iff hf).mp happ
  obtain ⟨hg, hn⟩ := and_e (Cond.before_iff.mp (show (Jvm.Cond.and given_1 narrow_1).before args s = true from hpre))
  obtain ⟨hc0, hg0⟩ := and_e hg
  obtain ⟨ga0, hg1⟩ := and_e hg0
  obtain ⟨ga1, hg2⟩ := and_e hg1
  obtain ⟨ga2, hg3⟩ := and_e hg2
  obtain ⟨ga3, hg4⟩ := and_e hg3
  obtain ⟨ga4, hg5⟩ := and_e hg4
  have ga5 := hg5
  obtain ⟨w0, w1, w2, w3, w4, w5, rfl⟩ : ∃ w0 w1 w2 w3 w4 w5 : Value, args = #[w0, w1, w2, w3, w4, w5] := by
    have hs : args.size = 6 := by simpa [Cond.value, given_1] using hc0
    obtain ⟨L⟩ := args
    match L, hs with
    | [w0, w1, w2, w3, w4, w5], _ => exact ⟨w0, w1, w2, w3, w4, w5, rfl⟩
  have hw := fun d (hd : d ∈ tables_1) => atoms_spec (ws := Jvm.Cond.code x code maxLocals ret :: tables_1) hat d (List.mem_cons_of_mem _ hd)
  have hfit : Fit s := fun {y c} hc i hi => by
    obtain ⟨ha, rfl⟩ := Array.getElem?_eq_some_iff.mp hc
    have q := List.all_eq_true.mp ((Array.all_eq_true_iff_forall_mem.mp hF) _ (Array.getElem_mem ha)) i (List.mem_range.mpr hi)
    simpa [Array.getElem?_eq_getElem hi] using q
  obtain ⟨i0, ei0⟩ := is_v ga0
  obtain rfl : w0 = (.int i0) := Option.some.inj ei0
  obtain ⟨i1, ei1⟩ := is_v ga1
  obtain rfl : w1 = (.int i1) := Option.some.inj ei1
  obtain ⟨i2, ei2⟩ := is_v ga2
  obtain rfl : w2 = (.int i2) := Option.some.inj ei2
  obtain ⟨i3, ei3⟩ := is_v ga3
  obtain rfl : w3 = (.int i3) := Option.some.inj ei3
  obtain ⟨i4, ei4⟩ := is_v ga4
  obtain rfl : w4 = (.int i4) := Option.some.inj ei4
  obtain ⟨i5, ei5⟩ := is_v ga5
  obtain rfl : w5 = (.int i5) := Option.some.inj ei5
  obtain ⟨n, o, h1, h2, h3, _, L, rfl, ⟨rfl, N, -⟩, hq⟩ := rmLaw l s _ hw tables_1 i0 i1 i2 i3 i4 i5 s.heap s.heap.size (Nat.le_refl _)  p e ha hc hk s m _ below hf ((Spec.applies_iff_loose hf).mp happ).1 ⟨rfl, State.Warmed39.refl s, rfl⟩ trivial
  refine ⟨n, _, h1, h2, h3, hpost _ _ _ _ _ _ ⟨Cond.after_iff.mpr rfl, Cond.after_iff.mpr (eq_i res_at (Term.int_eval (1)) rfl), trivial⟩ ⟨hq.1, hq.2.1, (hq.2.2.sift fun y hy => Or.inr (N y hy)).mono (by decide) (by decide)⟩⟩
theorem main_1_1 : Claimed_1_1 := comes_1 fun _ _ _ _ _ _ h hF => ⟨h.1, hF⟩
theorem main_1_2 : Claimed_1_2 := comes_1 fun _ _ _ _ _ _ h hF => ⟨h.2.1, hF⟩
end Jvm.Pilot.@@N@@
namespace Jvm.Pilot.@@N@@
open Jvm Jvm.ClassFile Sem Op Lib Jvm.Free Jvm.Stand Jvm.Pilot.@@N@@.Jvm.D
/-! MADE BY PROGRAM (witnessworld.py) out of the Statement's table words and the real class files: 14 classes; the members and pool entries that the words name. The judged class is class 1, her method 2. -/
namespace start1
open Jvm.ClassFile
def u (s : String) : CpInfo := .utf8 (stringToUtf16 s)
/-- a pool by its gaps: so many unusable entries, then the entry; so many at the end -/
def gap : Nat → List CpInfo → List CpInfo
  | 0, r => r
  | n + 1, r => .unusable :: gap n r
def poolList (es : List (Nat × CpInfo)) (last : Nat) : List CpInfo := es.foldr (fun e r => gap e.1 (e.2 :: r)) (gap last [])
def pool (es : List (Nat × CpInfo)) (last : Nat) : Array CpInfo := ⟨poolList es last⟩
def fileOf (pool : Array CpInfo) (this : Nat) (attrs : Array Attribute := #[]) (ms : Array MethodInfo := #[]) (fl : Nat := 33) (sup : Nat := 0) (ifs : Array Nat := #[]) (fds : Array FieldInfo := #[]) : ClassFile where
  minorVersion := 0
  majorVersion := 65
  constantPool := pool
  accessFlags := fl
  thisClass := this
  superClass := sup
  interfaces := ifs
  fields := fds
  methods := ms
  attributes := attrs
def plain (name : String) (sup : Option ClassId) : Class where
  name := name
  kind := .ordinary
  loader := none
  accessFlags := 33
  super := sup
  interfaces := #[]
  cf := none
  fields := #[]
  methods := #[]
  instanceTypes := #[]
  staticTypes := #[]
  resolved := #[]
  callSites := []
  init := .initialized
  statics := none
  mirror := none

def pool0 : Array CpInfo := pool [(5, u "<init>"), (0, u "()V"), (1, .class_ 10), (1, u "java/lang/Object")] 113

def k0c0 : Code := { maxStack := 0, maxLocals := 1, code := object_method_1_code, exceptionTable := #[], attributes := #[] }
def k0m0 : Method := { name := "<init>", desc := "()V", sig := { parameters := [], returnType := none }, accessFlags := 1, code := some k0c0 }
/-- java/lang/Object -/
def k0 : Class := { plain "java/lang/Object" none with
  accessFlags := 33
  interfaces := #[]
  cf := some (fileOf pool0 8 #[] #[{ accessFlags := 1, nameIndex := 5, descriptorIndex := 6, attributes := #[] }] 33 0 #[] #[])
  fields := #[]
  methods := #[k0m0]
  instanceTypes := #[]
  staticTypes := #[]
  resolved := Array.replicate 124 none
  statics := none }

def pool1 : Array CpInfo := pool [(2, .class_ 4), (0, .nameAndType 5 6), (0, u "java/lang/Object"), (0, u "<init>"), (0, u "()V"), (0, .integer 268435455), (0, .double 4616189618054758400), (1, .methodref 11 12), (0, .class_ 13), (0, .nameAndType 14 15), (0, u "com/example/spillback/spillback/model/NetworkSetLinkParametersPinLaw"), (0, u "pos"), (0, u "(I)D"), (0, .class_ 17), (0, u "com/example/spillback/spillback/model/Network"), (0, .methodref 16 3), (0, .methodref 16 20), (0, .nameAndType 21 22), (0, u "setLinkParameters"), (0, u "(DDD)V"), (0, .methodref 16 24), (0, .nameAndType 25 26), (0, u "capacityPeriod"), (0, u "()D"), (0, .methodref 16 28), (0, .nameAndType 29 26), (0, u "effectiveCellSize"), (0, .methodref 16 31), (0, .nameAndType 32 26), (0, u "effectiveLaneWidth"), (2, u "law"), (0, u "(IIIIII)Z")] 3

def k1m0 : Method := { name := "<init>", desc := "()V", sig := { parameters := [], returnType := none }, accessFlags := 1, code := none }
def k1c1 : Code := { maxStack := 4, maxLocals := 1, code := method_2_code, exceptionTable := #[], attributes := #[] }
def k1m1 : Method := { name := "pos", desc := "(I)D", sig := { parameters := [.int], returnType := some .double }, accessFlags := 10, code := some k1c1 }
def k1c2 : Code := { maxStack := 7, maxLocals := 21, code := code, exceptionTable := #[], attributes := #[] }
def k1m2 : Method := { name := "law", desc := "(IIIIII)Z", sig := { parameters := [.int, .int, .int, .int, .int, .int], returnType := some .boolean }, accessFlags := 9, code := some k1c2 }
/-- com/example/spillback/spillback/model/NetworkSetLinkParametersPinLaw -/
def k1 : Class := { plain "com/example/spillback/spillback/model/NetworkSetLinkParametersPinLaw" (some 0) with
  accessFlags := 49
  interfaces := #[]
  cf := some (fileOf pool1 11 #[] #[{ accessFlags := 1, nameIndex := 5, descriptorIndex := 6, attributes := #[] }, { accessFlags := 10, nameIndex := 14, descriptorIndex := 15, attributes := #[] }, { accessFlags := 9, nameIndex := 35, descriptorIndex := 36, attributes := #[] }] 49 2 #[] #[])
  fields := #[]
  methods := #[k1m0, k1m1, k1m2]
  instanceTypes := #[]
  staticTypes := #[]
  resolved := Array.replicate 40 none
  statics := none }

def pool2 : Array CpInfo := pool [(1, .methodref 2 3), (0, .class_ 4), (0, .nameAndType 5 6), (0, u "java/lang/Object"), (0, u "<init>"), (0, u "()V"), (0, .double 4660134898793709568), (1, .fieldref 10 11), (0, .class_ 12), (0, .nameAndType 13 14), (0, u "com/example/spillback/spillback/model/Network"), (0, u "capacityPeriod"), (0, u "D"), (0, .double 4620130267728707584), (1, .fieldref 10 18), (0, .nameAndType 19 14), (0, u "effectiveCellSize"), (0, .double 4615626668101337088), (1, .fieldref 10 23), (0, .nameAndType 24 14), (0, u "effectiveLaneWidth"), (0, .class_ 26), (0, u "java/util/LinkedHashMap"), (0, .methodref 25 3), (0, .fieldref 10 29), (0, .nameAndType 30 31), (0, u "nodes"), (0, u "Ljava/util/Map;"), (0, .fieldref 10 33), (0, .nameAndType 34 31), (0, u "links"), (54, u "setLinkParameters"), (0, u "(DDD)V"), (1, u "()D")] 30

def k2c0 : Code := { maxStack := 3, maxLocals := 1, code := prog_73_method_1_code, exceptionTable := #[], attributes := #[] }
def k2m0 : Method := { name := "<init>", desc := "()V", sig := { parameters := [], returnType := none }, accessFlags := 1, code := some k2c0 }
def k2c1 : Code := { maxStack := 4, maxLocals := 7, code := prog_73_method_2_code, exceptionTable := #[], attributes := #[] }
def k2m1 : Method := { name := "setLinkParameters", desc := "(DDD)V", sig := { parameters := [.double, .double, .double], returnType := none }, accessFlags := 1, code := some k2c1 }
def k2c2 : Code := { maxStack := 2, maxLocals := 1, code := prog_73_method_3_code, exceptionTable := #[], attributes := #[] }
def k2m2 : Method := { name := "capacityPeriod", desc := "()D", sig := { parameters := [], returnType := some .double }, accessFlags := 1, code := some k2c2 }
def k2c3 : Code := { maxStack := 2, maxLocals := 1, code := prog_73_method_4_code, exceptionTable := #[], attributes := #[] }
def k2m3 : Method := { name := "effectiveCellSize", desc := "()D", sig := { parameters := [], returnType := some .double }, accessFlags := 1, code := some k2c3 }
def k2c4 : Code := { maxStack := 2, maxLocals := 1, code := prog_73_method_5_code, exceptionTable := #[], attributes := #[] }
def k2m4 : Method := { name := "effectiveLaneWidth", desc := "()D", sig := { parameters := [], returnType := some .double }, accessFlags := 1, code := some k2c4 }
/-- com/example/spillback/spillback/model/Network -/
def k2 : Class := { plain "com/example/spillback/spillback/model/Network" (some 0) with
  accessFlags := 49
  interfaces := #[]
  cf := some (fileOf pool2 10 #[] #[{ accessFlags := 1, nameIndex := 5, descriptorIndex := 6, attributes := #[] }, { accessFlags := 1, nameIndex := 89, descriptorIndex := 90, attributes := #[] }, { accessFlags := 1, nameIndex := 13, descriptorIndex := 92, attributes := #[] }, { accessFlags := 1, nameIndex := 19, descriptorIndex := 92, attributes := #[] }, { accessFlags := 1, nameIndex := 24, descriptorIndex := 92, attributes := #[] }] 49 2 #[] #[{ accessFlags := 2, nameIndex := 13, descriptorIndex := 14, attributes := #[] }, { accessFlags := 2, nameIndex := 19, descriptorIndex := 14, attributes := #[] }, { accessFlags := 2, nameIndex := 24, descriptorIndex := 14, attributes := #[] }, { accessFlags := 18, nameIndex := 30, descriptorIndex := 31, attributes := #[] }, { accessFlags := 18, nameIndex := 34, descriptorIndex := 31, attributes := #[] }])
  fields := #[{ name := "capacityPeriod", type := .double, accessFlags := 2, slot := 0, constantValue := 0 }, { name := "effectiveCellSize", type := .double, accessFlags := 2, slot := 1, constantValue := 0 }, { name := "effectiveLaneWidth", type := .double, accessFlags := 2, slot := 2, constantValue := 0 }, { name := "nodes", type := (.object "java/util/Map"), accessFlags := 18, slot := 3, constantValue := 0 }, { name := "links", type := (.object "java/util/Map"), accessFlags := 18, slot := 4, constantValue := 0 }]
  methods := #[k2m0, k2m1, k2m2, k2m3, k2m4]
  instanceTypes := #[.double, .double, .double, (.object "java/util/Map"), (.object "java/util/Map")]
  staticTypes := #[]
  resolved := Array.replicate 123 none
  statics := none }

def pool3 : Array CpInfo := pool [(2, .class_ 4), (1, u "java/util/Map"), (31, .class_ 37), (0, u "java/util/Map$Entry"), (55, .class_ 94), (0, u "java/lang/Object")] 168

/-- java/util/Map -/
def k3 : Class := { plain "java/util/Map" (some 0) with
  accessFlags := 1537
  interfaces := #[]
  cf := some (fileOf pool3 2 #[.nestMembers #[36]] #[] 1537 93 #[] #[])
  fields := #[]
  methods := #[]
  instanceTypes := #[]
  staticTypes := #[]
  resolved := Array.replicate 263 none
  statics := none }

def pool4 : Array CpInfo := pool [(1, .methodref 2 3), (0, .class_ 4), (0, .nameAndType 5 6), (0, u "java/lang/Object"), (0, u "<init>"), (0, u "()V"), (1, .class_ 10), (1, u "java/util/AbstractMap"), (42, .class_ 54), (0, u "java/util/Map"), (9, u "keySet"), (0, u "Ljava/util/Set;"), (0, .class_ 67), (0, u "java/util/AbstractMap$1"), (5, u "values"), (0, u "Ljava/util/Collection;"), (0, .class_ 76), (0, u "java/util/AbstractMap$2"), (104, .class_ 182), (0, u "java/util/AbstractMap$ViewCollection"), (0, .class_ 184), (0, u "java/util/AbstractMap$SimpleImmutableEntry"), (0, .class_ 186), (0, u "java/util/AbstractMap$SimpleEntry"), (0, .class_ 188), (0, u "java/util/AbstractMap$2$1"), (0, .class_ 190), (0, u "java/util/AbstractMap$1$1")] 5

def k4c0 : Code := { maxStack := 1, maxLocals := 1, code := jdk_71_method_1_code, exceptionTable := #[], attributes := #[] }
def k4m0 : Method := { name := "<init>", desc := "()V", sig := { parameters := [], returnType := none }, accessFlags := 4, code := some k4c0 }
/-- java/util/AbstractMap -/
def k4 : Class := { plain "java/util/AbstractMap" (some 0) with
  accessFlags := 1057
  interfaces := #[3]
  cf := some (fileOf pool4 8 #[.nestMembers #[181, 183, 185, 75, 187, 66, 189]] #[{ accessFlags := 4, nameIndex := 5, descriptorIndex := 6, attributes := #[] }] 1057 2 #[53] #[{ accessFlags := 128, nameIndex := 64, descriptorIndex := 65, attributes := #[] }, { accessFlags := 128, nameIndex := 73, descriptorIndex := 74, attributes := #[] }])
  fields := #[{ name := "keySet", type := (.object "java/util/Set"), accessFlags := 128, slot := 0, constantValue := 0 }, { name := "values", type := (.object "java/util/Collection"), accessFlags := 128, slot := 1, constantValue := 0 }]
  methods := #[k4m0]
  instanceTypes := #[(.object "java/util/Set"), (.object "java/util/Collection")]
  staticTypes := #[]
  resolved := Array.replicate 196 none
  statics := none }

def pool5 : Array CpInfo := pool [(1, .class_ 2), (0, u "java/lang/Cloneable"), (0, .class_ 4), (0, u "java/lang/Object")] 2

/-- java/lang/Cloneable -/
def k5 : Class := { plain "java/lang/Cloneable" (some 0) with
  accessFlags := 1537
  interfaces := #[]
  cf := some (fileOf pool5 1 #[] #[] 1537 3 #[] #[])
  fields := #[]
  methods := #[]
  instanceTypes := #[]
  staticTypes := #[]
  resolved := Array.replicate 7 none
  statics := none }

def pool6 : Array CpInfo := pool [(1, .class_ 2), (0, u "java/io/Serializable"), (0, .class_ 4), (0, u "java/lang/Object")] 2

/-- java/io/Serializable -/
def k6 : Class := { plain "java/io/Serializable" (some 0) with
  accessFlags := 1537
  interfaces := #[]
  cf := some (fileOf pool6 1 #[] #[] 1537 3 #[] #[])
  fields := #[]
  methods := #[]
  instanceTypes := #[]
  staticTypes := #[]
  resolved := Array.replicate 7 none
  statics := none }

def pool7 : Array CpInfo := pool [(40, .class_ 41), (0, u "java/util/HashMap"), (1, .methodref 44 45), (0, .class_ 46), (0, .nameAndType 47 48), (0, u "java/util/AbstractMap"), (0, u "<init>"), (0, u "()V"), (32, .fieldref 40 82), (0, .nameAndType 83 84), (0, u "loadFactor"), (0, u "F"), (5, u "threshold"), (0, u "I"), (0, .float 1061158912), (8, .class_ 103), (1, u "java/util/Map"), (0, u "size"), (2, u "table"), (0, u "[Ljava/util/HashMap$Node;"), (14, u "entrySet"), (39, .class_ 165), (1, u "java/util/HashMap$Node"), (14, .class_ 181), (0, u "java/util/HashMap$TreeNode"), (22, u "modCount"), (37, u "Ljava/util/Set;"), (0, .class_ 244), (0, u "java/util/HashMap$KeySet"), (18, .class_ 264), (0, u "java/util/HashMap$Values"), (3, .class_ 269), (0, u "java/util/HashMap$EntrySet"), (76, .class_ 348), (1, u "java/util/HashMap$UnsafeHolder"), (43, .class_ 393), (0, u "java/lang/Cloneable"), (0, .class_ 395), (0, u "java/io/Serializable"), (0, u "serialVersionUID"), (0, u "J"), (3, u "DEFAULT_INITIAL_CAPACITY"), (1, u "MAXIMUM_CAPACITY"), (0, u "DEFAULT_LOAD_FACTOR"), (0, u "TREEIFY_THRESHOLD"), (1, u "UNTREEIFY_THRESHOLD"), (1, u "MIN_TREEIFY_CAPACITY"), (186, .class_ 597), (0, u "java/util/HashMap$EntrySpliterator"), (0, .class_ 599), (0, u "java/util/HashMap$ValueSpliterator"), (0, .class_ 601), (0, u "java/util/HashMap$KeySpliterator"), (0, .class_ 603), (0, u "java/util/HashMap$HashMapSpliterator"), (0, .class_ 605), (0, u "java/util/HashMap$EntryIterator"), (0, .class_ 607), (0, u "java/util/HashMap$ValueIterator"), (0, .class_ 609), (0, u "java/util/HashMap$KeyIterator"), (0, .class_ 611), (0, u "java/util/HashMap$HashIterator")] 17

def k7c0 : Code := { maxStack := 2, maxLocals := 1, code := jdk_69_method_7_code, exceptionTable := #[], attributes := #[] }
def k7m0 : Method := { name := "<init>", desc := "()V", sig := { parameters := [], returnType := none }, accessFlags := 1, code := some k7c0 }
/-- java/util/HashMap -/
def k7 : Class := { plain "java/util/HashMap" (some 4) with
  accessFlags := 33
  interfaces := #[3, 5, 6]
  cf := some (fileOf pool7 40 #[.nestMembers #[180, 596, 598, 600, 602, 604, 606, 608, 610, 346, 268, 263, 243, 163]] #[{ accessFlags := 1, nameIndex := 47, descriptorIndex := 48, attributes := #[] }] 33 44 #[101, 392, 394] #[{ accessFlags := 26, nameIndex := 396, descriptorIndex := 397, attributes := #[] }, { accessFlags := 24, nameIndex := 401, descriptorIndex := 91, attributes := #[] }, { accessFlags := 24, nameIndex := 403, descriptorIndex := 91, attributes := #[] }, { accessFlags := 24, nameIndex := 404, descriptorIndex := 84, attributes := #[] }, { accessFlags := 24, nameIndex := 405, descriptorIndex := 91, attributes := #[] }, { accessFlags := 24, nameIndex := 407, descriptorIndex := 91, attributes := #[] }, { accessFlags := 24, nameIndex := 409, descriptorIndex := 91, attributes := #[] }, { accessFlags := 128, nameIndex := 107, descriptorIndex := 108, attributes := #[] }, { accessFlags := 128, nameIndex := 123, descriptorIndex := 242, attributes := #[] }, { accessFlags := 128, nameIndex := 104, descriptorIndex := 91, attributes := #[] }, { accessFlags := 128, nameIndex := 204, descriptorIndex := 91, attributes := #[] }, { accessFlags := 0, nameIndex := 90, descriptorIndex := 91, attributes := #[] }, { accessFlags := 16, nameIndex := 83, descriptorIndex := 84, attributes := #[] }])
  fields := #[{ name := "serialVersionUID", type := .long, accessFlags := 26, slot := 0, constantValue := 0 }, { name := "DEFAULT_INITIAL_CAPACITY", type := .int, accessFlags := 24, slot := 1, constantValue := 0 }, { name := "MAXIMUM_CAPACITY", type := .int, accessFlags := 24, slot := 2, constantValue := 0 }, { name := "DEFAULT_LOAD_FACTOR", type := .float, accessFlags := 24, slot := 3, constantValue := 0 }, { name := "TREEIFY_THRESHOLD", type := .int, accessFlags := 24, slot := 4, constantValue := 0 }, { name := "UNTREEIFY_THRESHOLD", type := .int, accessFlags := 24, slot := 5, constantValue := 0 }, { name := "MIN_TREEIFY_CAPACITY", type := .int, accessFlags := 24, slot := 6, constantValue := 0 }, { name := "table", type := (.array (.object "java/util/HashMap$Node")), accessFlags := 128, slot := 2, constantValue := 0 }, { name := "entrySet", type := (.object "java/util/Set"), accessFlags := 128, slot := 3, constantValue := 0 }, { name := "size", type := .int, accessFlags := 128, slot := 4, constantValue := 0 }, { name := "modCount", type := .int, accessFlags := 128, slot := 5, constantValue := 0 }, { name := "threshold", type := .int, accessFlags := 0, slot := 6, constantValue := 0 }, { name := "loadFactor", type := .float, accessFlags := 16, slot := 7, constantValue := 0 }]
  methods := #[k7m0]
  instanceTypes := #[(.object "java/util/Set"), (.object "java/util/Collection"), (.array (.object "java/util/HashMap$Node")), (.object "java/util/Set"), .int, .int, .int, .float]
  staticTypes := #[.long, .int, .int, .float, .int, .int, .int]
  resolved := Array.replicate 629 none
  statics := none }

def pool8 : Array CpInfo := pool [(2, .class_ 4), (1, u "java/util/SequencedMap"), (38, .class_ 44), (0, u "java/util/SequencedMap$1SeqKeySet"), (3, .class_ 49), (0, u "java/util/SequencedMap$1SeqValues"), (1, .class_ 52), (0, u "java/util/SequencedMap$1SeqEntrySet"), (1, .class_ 55), (0, u "java/lang/Object"), (0, .class_ 57), (0, u "java/util/Map")] 48

/-- java/util/SequencedMap -/
def k8 : Class := { plain "java/util/SequencedMap" (some 0) with
  accessFlags := 1537
  interfaces := #[3]
  cf := some (fileOf pool8 2 #[.nestMembers #[51, 48, 43]] #[] 1537 54 #[56] #[])
  fields := #[]
  methods := #[]
  instanceTypes := #[]
  staticTypes := #[]
  resolved := Array.replicate 106 none
  statics := none }

def pool9 : Array CpInfo := pool [(1, .fieldref 2 3), (0, .class_ 4), (0, .nameAndType 5 6), (0, u "java/util/LinkedHashMap"), (0, u "putMode"), (0, u "I"), (2, u "head"), (0, u "Ljava/util/LinkedHashMap$Entry;"), (2, u "tail"), (1, .class_ 17), (1, u "java/util/LinkedHashMap$Entry"), (5, .class_ 25), (1, u "java/util/HashMap"), (1, u "()V"), (2, u "<init>"), (33, .fieldref 2 65), (0, .nameAndType 66 67), (0, u "accessOrder"), (0, u "Z"), (19, .methodref 23 88), (0, .nameAndType 30 27), (32, .class_ 122), (0, u "java/util/LinkedHashMap$LinkedKeySet"), (20, .class_ 144), (0, u "java/util/LinkedHashMap$LinkedValues"), (9, .class_ 155), (0, u "java/util/LinkedHashMap$LinkedEntrySet"), (44, .class_ 201), (0, u "java/util/LinkedHashMap$ReversedLinkedHashMapView"), (3, .class_ 206), (0, u "java/util/SequencedMap"), (0, u "serialVersionUID"), (0, u "J"), (5, u "PUT_NORM"), (1, u "PUT_FIRST"), (1, u "PUT_LAST"), (143, .class_ 363), (0, u "java/util/LinkedHashMap$LinkedEntryIterator"), (0, .class_ 365), (0, u "java/util/LinkedHashMap$LinkedValueIterator"), (0, .class_ 367), (0, u "java/util/LinkedHashMap$LinkedKeyIterator"), (0, .class_ 369), (0, u "java/util/LinkedHashMap$LinkedHashIterator")] 16

def k9c0 : Code := { maxStack := 2, maxLocals := 1, code := jdk_94_method_16_code, exceptionTable := #[], attributes := #[] }
def k9m0 : Method := { name := "<init>", desc := "()V", sig := { parameters := [], returnType := none }, accessFlags := 1, code := some k9c0 }
/-- java/util/LinkedHashMap -/
def k9 : Class := { plain "java/util/LinkedHashMap" (some 7) with
  accessFlags := 33
  interfaces := #[8]
  cf := some (fileOf pool9 2 #[.nestMembers #[200, 362, 364, 366, 368, 154, 143, 121, 15]] #[{ accessFlags := 1, nameIndex := 30, descriptorIndex := 27, attributes := #[] }] 33 23 #[205] #[{ accessFlags := 26, nameIndex := 207, descriptorIndex := 208, attributes := #[] }, { accessFlags := 128, nameIndex := 9, descriptorIndex := 10, attributes := #[] }, { accessFlags := 128, nameIndex := 13, descriptorIndex := 10, attributes := #[] }, { accessFlags := 16, nameIndex := 66, descriptorIndex := 67, attributes := #[] }, { accessFlags := 24, nameIndex := 214, descriptorIndex := 6, attributes := #[] }, { accessFlags := 24, nameIndex := 216, descriptorIndex := 6, attributes := #[] }, { accessFlags := 24, nameIndex := 218, descriptorIndex := 6, attributes := #[] }, { accessFlags := 128, nameIndex := 5, descriptorIndex := 6, attributes := #[] }])
  fields := #[{ name := "serialVersionUID", type := .long, accessFlags := 26, slot := 0, constantValue := 0 }, { name := "head", type := (.object "java/util/LinkedHashMap$Entry"), accessFlags := 128, slot := 8, constantValue := 0 }, { name := "tail", type := (.object "java/util/LinkedHashMap$Entry"), accessFlags := 128, slot := 9, constantValue := 0 }, { name := "accessOrder", type := .boolean, accessFlags := 16, slot := 10, constantValue := 0 }, { name := "PUT_NORM", type := .int, accessFlags := 24, slot := 1, constantValue := 0 }, { name := "PUT_FIRST", type := .int, accessFlags := 24, slot := 2, constantValue := 0 }, { name := "PUT_LAST", type := .int, accessFlags := 24, slot := 3, constantValue := 0 }, { name := "putMode", type := .int, accessFlags := 128, slot := 11, constantValue := 0 }]
  methods := #[k9m0]
  instanceTypes := #[(.object "java/util/Set"), (.object "java/util/Collection"), (.array (.object "java/util/HashMap$Node")), (.object "java/util/Set"), .int, .int, .int, .float, (.object "java/util/LinkedHashMap$Entry"), (.object "java/util/LinkedHashMap$Entry"), .boolean, .int]
  staticTypes := #[.long, .int, .int, .int]
  resolved := Array.replicate 386 none
  statics := none }

/-- the primitive byte -/
def k10 : Class := { plain "byte" none with kind := .primitive 'B', accessFlags := 0x411 }
/-- [B -/
def k11 : Class := { plain "[B" (some 0) with kind := .array 10 .byte, interfaces := #[5, 6], accessFlags := 1041 }

/-- the primitive int -/
def k12 : Class := { plain "int" none with kind := .primitive 'I', accessFlags := 0x411 }
/-- [I -/
def k13 : Class := { plain "[I" (some 0) with kind := .array 12 .int, interfaces := #[5, 6], accessFlags := 1041 }

def heap : Heap := #[]
def classes : Array Class := #[k0, k1, k2, k3, k4, k5, k6, k7, k8, k9, k10, k11, k12, k13]
def interned : List (Array UInt16 × Addr) := []
def slotsUsed : Nat := 0
def theMethod : MethodId := ⟨1, 2⟩
def args0 : Array Value := #[.int 5, .int 300, .int 7, .int 1, .int 2, .int 3]
def aboutOver (below : List Frame) : State where
  vm := { classes := classes, interned := interned.toArray }
  heap := heap
  slotsUsed := slotsUsed
  threads := #[{ frames := .invoking theMethod args0 :: below }]
def below0 : List Frame := [.native { method := ⟨0, 0⟩, args := #[] }]
def about1 : State := aboutOver below0
def p0 : Program := .bare "" "" ""
def e0 : Env := launch0.env 0 0 0
theorem w_frames : about1.frames = Frame.invoking theMethod args0 :: below0 := rfl
set_option maxRecDepth 65536 in
theorem w_args : argsFit about1.vm theMethod args0 = true := by decide +kernel
set_option maxRecDepth 65536 in
theorem w_heap : heapFits about1 = true := by decide +kernel
set_option maxRecDepth 65536 in
theorem w_runnable : about1.curStatus? = some .runnable := by decide +kernel
set_option maxRecDepth 65536 in
theorem w_alone : about1.alone = true := by decide +kernel
set_option maxRecDepth 65536 in
theorem w_named : about1.methodNamed? x = some theMethod := by decide +kernel
set_option maxRecDepth 65536 in
theorem w_hears : about1.hears theMethod below0 = true := by decide +kernel
set_option maxRecDepth 65536 in
theorem w_ripe : about1.ripe theMethod args0 below0 = true := by decide +kernel
theorem w_running : about1.status = .running := rfl
set_option maxRecDepth 65536 in
theorem w_room : about1.hasRoom e0.platform room_1 = true :=
  launch0.hasRoom_least _ room_1 (by decide +kernel) (by decide +kernel) (by decide +kernel) (by decide +kernel) (by decide +kernel) (by decide +kernel)
theorem allAtoms_all (ts : List Jvm.Cond) (a : Array Jvm.Value) (st : Jvm.State) : (allAtoms ts).before a st = ts.all (fun c => c.before a st) := by
  induction ts with
  | nil => rfl
  | cons c t ih =>
    show (Jvm.Cond.and c (allAtoms t)).before a st = _
    rw [Jvm.Cond.before_and, ih, List.all_cons]
def words1 : List Jvm.Cond := Jvm.Cond.code x code maxLocals ret :: tables_1
/-- a 'code' word, met by the world's own term for the bytes: nothing is compared byte by byte -/
theorem code_word {y : MethodName} {bytes : ByteArray} {mx : Nat} {rt : Option FieldType} {a : Array Value} {s : State} {m : MethodId} {meth : Method} {c : Code} (h1 : s.methodNamed? y = some m) (h2 : s.vm.method? m = some meth) (h3 : meth.code = some c) (h4 : c.code = bytes)
    (h5 : (c.maxLocals == mx && c.exceptionTable.isEmpty && decide (c.maxStack ≤ mostOperands) && decide (meth.sig.returnType = rt) && !meth.locks && decide (parseMethodDescriptor y.desc = some meth.sig)) = true) : (Jvm.Cond.code y bytes mx rt).before a s = true := by
  simp only [Bool.and_eq_true, beq_iff_eq, Bool.not_eq_true', decide_eq_true_eq] at h5
  obtain ⟨⟨⟨⟨⟨g1, g2⟩, g3⟩, g4⟩, g5⟩, g6⟩ := h5
  simp [Cond.before, Cond.holds, Cond.value, h1, h2, h3, h4, g1, g2, g3, g4, g5, g6]
def isCode : Jvm.Cond → Bool
  | .code _ _ _ _ => true
  | _ => false
theorem all_split {L : List Jvm.Cond} {P : Jvm.Cond → Bool} (h1 : L.all (fun c => isCode c || P c) = true) (h2 : ∀ c ∈ L.filter isCode, P c = true) : L.all P = true := by
  refine List.all_eq_true.mpr fun c hc => ?_
  have h := List.all_eq_true.mp h1 c hc
  rcases Bool.eq_false_or_eq_true (isCode c) with hi | hi
  · exact h2 c (List.mem_filter.mpr ⟨hc, hi⟩)
  · simpa [hi] using h
set_option maxRecDepth 65536 in
theorem w_c0 : (Jvm.Cond.code x code maxLocals ret).before args0 about1 = true := code_word (m := ⟨1, 2⟩) (meth := k1m2) (c := k1c2) (by decide +kernel) rfl rfl rfl (by decide +kernel)
set_option maxRecDepth 65536 in
theorem w_c1 : (Jvm.Cond.code ({ cls := "com/example/spillback/spillback/model/NetworkSetLinkParametersPinLaw", name := "pos", desc := "(I)D" } : Jvm.MethodName) method_2_code (1 : Nat) (Option.some Jvm.ClassFile.FieldType.double)).before args0 about1 = true := code_word (m := ⟨1, 1⟩) (meth := k1m1) (c := k1c1) (by decide +kernel) rfl rfl rfl (by decide +kernel)
set_option maxRecDepth 65536 in
theorem w_c2 : (Jvm.Cond.code ({ cls := "com/example/spillback/spillback/model/Network", name := "<init>", desc := "()V" } : Jvm.MethodName) prog_73_method_1_code (1 : Nat) (Option.none : Option Jvm.ClassFile.FieldType)).before args0 about1 = true := code_word (m := ⟨2, 0⟩) (meth := k2m0) (c := k2c0) (by decide +kernel) rfl rfl rfl (by decide +kernel)
set_option maxRecDepth 65536 in
theorem w_c3 : (Jvm.Cond.code ({ cls := "java/lang/Object", name := "<init>", desc := "()V" } : Jvm.MethodName) object_method_1_code (1 : Nat) (Option.none : Option Jvm.ClassFile.FieldType)).before args0 about1 = true := code_word (m := ⟨0, 0⟩) (meth := k0m0) (c := k0c0) (by decide +kernel) rfl rfl rfl (by decide +kernel)
set_option maxRecDepth 65536 in
theorem w_c4 : (Jvm.Cond.code ({ cls := "java/util/LinkedHashMap", name := "<init>", desc := "()V" } : Jvm.MethodName) jdk_94_method_16_code (1 : Nat) (Option.none : Option Jvm.ClassFile.FieldType)).before args0 about1 = true := code_word (m := ⟨9, 0⟩) (meth := k9m0) (c := k9c0) (by decide +kernel) rfl rfl rfl (by decide +kernel)
set_option maxRecDepth 65536 in
theorem w_c5 : (Jvm.Cond.code ({ cls := "java/util/HashMap", name := "<init>", desc := "()V" } : Jvm.MethodName) jdk_69_method_7_code (1 : Nat) (Option.none : Option Jvm.ClassFile.FieldType)).before args0 about1 = true := code_word (m := ⟨7, 0⟩) (meth := k7m0) (c := k7c0) (by decide +kernel) rfl rfl rfl (by decide +kernel)
set_option maxRecDepth 65536 in
theorem w_c6 : (Jvm.Cond.code ({ cls := "java/util/AbstractMap", name := "<init>", desc := "()V" } : Jvm.MethodName) jdk_71_method_1_code (1 : Nat) (Option.none : Option Jvm.ClassFile.FieldType)).before args0 about1 = true := code_word (m := ⟨4, 0⟩) (meth := k4m0) (c := k4c0) (by decide +kernel) rfl rfl rfl (by decide +kernel)
set_option maxRecDepth 65536 in
theorem w_c7 : (Jvm.Cond.code ({ cls := "com/example/spillback/spillback/model/Network", name := "setLinkParameters", desc := "(DDD)V" } : Jvm.MethodName) prog_73_method_2_code (7 : Nat) (Option.none : Option Jvm.ClassFile.FieldType)).before args0 about1 = true := code_word (m := ⟨2, 1⟩) (meth := k2m1) (c := k2c1) (by decide +kernel) rfl rfl rfl (by decide +kernel)
set_option maxRecDepth 65536 in
theorem w_c8 : (Jvm.Cond.code ({ cls := "com/example/spillback/spillback/model/Network", name := "capacityPeriod", desc := "()D" } : Jvm.MethodName) prog_73_method_3_code (1 : Nat) (Option.some Jvm.ClassFile.FieldType.double)).before args0 about1 = true := code_word (m := ⟨2, 2⟩) (meth := k2m2) (c := k2c2) (by decide +kernel) rfl rfl rfl (by decide +kernel)
set_option maxRecDepth 65536 in
theorem w_c9 : (Jvm.Cond.code ({ cls := "com/example/spillback/spillback/model/Network", name := "effectiveCellSize", desc := "()D" } : Jvm.MethodName) prog_73_method_4_code (1 : Nat) (Option.some Jvm.ClassFile.FieldType.double)).before args0 about1 = true := code_word (m := ⟨2, 3⟩) (meth := k2m3) (c := k2c3) (by decide +kernel) rfl rfl rfl (by decide +kernel)
set_option maxRecDepth 65536 in
theorem w_c10 : (Jvm.Cond.code ({ cls := "com/example/spillback/spillback/model/Network", name := "effectiveLaneWidth", desc := "()D" } : Jvm.MethodName) prog_73_method_5_code (1 : Nat) (Option.some Jvm.ClassFile.FieldType.double)).before args0 about1 = true := code_word (m := ⟨2, 4⟩) (meth := k2m4) (c := k2c4) (by decide +kernel) rfl rfl rfl (by decide +kernel)
def codes1 : List Jvm.Cond := [Jvm.Cond.code x code maxLocals ret, Jvm.Cond.code ({ cls := "com/example/spillback/spillback/model/NetworkSetLinkParametersPinLaw", name := "pos", desc := "(I)D" } : Jvm.MethodName) method_2_code (1 : Nat) (Option.some Jvm.ClassFile.FieldType.double), Jvm.Cond.code ({ cls := "com/example/spillback/spillback/model/Network", name := "<init>", desc := "()V" } : Jvm.MethodName) prog_73_method_1_code (1 : Nat) (Option.none : Option Jvm.ClassFile.FieldType), Jvm.Cond.code ({ cls := "java/lang/Object", name := "<init>", desc := "()V" } : Jvm.MethodName) object_method_1_code (1 : Nat) (Option.none : Option Jvm.ClassFile.FieldType), Jvm.Cond.code ({ cls := "java/util/LinkedHashMap", name := "<init>", desc := "()V" } : Jvm.MethodName) jdk_94_method_16_code (1 : Nat) (Option.none : Option Jvm.ClassFile.FieldType), Jvm.Cond.code ({ cls := "java/util/HashMap", name := "<init>", desc := "()V" } : Jvm.MethodName) jdk_69_method_7_code (1 : Nat) (Option.none : Option Jvm.ClassFile.FieldType), Jvm.Cond.code ({ cls := "java/util/AbstractMap", name := "<init>", desc := "()V" } : Jvm.MethodName) jdk_71_method_1_code (1 : Nat) (Option.none : Option Jvm.ClassFile.FieldType), Jvm.Cond.code ({ cls := "com/example/spillback/spillback/model/Network", name := "setLinkParameters", desc := "(DDD)V" } : Jvm.MethodName) prog_73_method_2_code (7 : Nat) (Option.none : Option Jvm.ClassFile.FieldType), Jvm.Cond.code ({ cls := "com/example/spillback/spillback/model/Network", name := "capacityPeriod", desc := "()D" } : Jvm.MethodName) prog_73_method_3_code (1 : Nat) (Option.some Jvm.ClassFile.FieldType.double), Jvm.Cond.code ({ cls := "com/example/spillback/spillback/model/Network", name := "effectiveCellSize", desc := "()D" } : Jvm.MethodName) prog_73_method_4_code (1 : Nat) (Option.some Jvm.ClassFile.FieldType.double), Jvm.Cond.code ({ cls := "com/example/spillback/spillback/model/Network", name := "effectiveLaneWidth", desc := "()D" } : Jvm.MethodName) prog_73_method_5_code (1 : Nat) (Option.some Jvm.ClassFile.FieldType.double)]
set_option maxRecDepth 65536 in
theorem codes_eq : words1.filter isCode = codes1 := rfl
theorem w_codes : ∀ c ∈ words1.filter isCode, c.before args0 about1 = true := by
  rw [codes_eq]
  intro c hc
  simp only [codes1, List.mem_cons, List.not_mem_nil, or_false] at hc
  rcases hc with rfl | rfl | rfl | rfl | rfl | rfl | rfl | rfl | rfl | rfl | rfl
  · exact w_c0
  · exact w_c1
  · exact w_c2
  · exact w_c3
  · exact w_c4
  · exact w_c5
  · exact w_c6
  · exact w_c7
  · exact w_c8
  · exact w_c9
  · exact w_c10
set_option maxRecDepth 65536 in
theorem w_t1 : (words1.take 24).all (fun c => isCode c || c.before args0 about1) = true := by decide +kernel
set_option maxRecDepth 65536 in
theorem w_t2 : ((words1.drop 24).take 24).all (fun c => isCode c || c.before args0 about1) = true := by decide +kernel
set_option maxRecDepth 65536 in
theorem w_t3 : (((words1.drop 24).drop 24).take 24).all (fun c => isCode c || c.before args0 about1) = true := by decide +kernel
set_option maxRecDepth 65536 in
theorem w_t4 : (((words1.drop 24).drop 24).drop 24).all (fun c => isCode c || c.before args0 about1) = true := by decide +kernel
theorem w_tables : (allAtoms (Jvm.Cond.code x code maxLocals ret :: tables_1)).before args0 about1 = true := by
  rw [allAtoms_all]
  show words1.all (fun c => c.before args0 about1) = true
  refine all_split ?_ w_codes
  rw [← List.take_append_drop 24 words1, List.all_append, w_t1, ← List.take_append_drop 24 (words1.drop 24), List.all_append, w_t2, ← List.take_append_drop 24 ((words1.drop 24).drop 24), List.all_append, w_t3, w_t4]
  rfl
set_option maxRecDepth 65536 in
theorem w_case : (Jvm.Cond.and given_1 narrow_1).before args0 about1 = true := by decide +kernel
theorem w_applies : (headSpec (Jvm.Cond.code x code maxLocals ret :: tables_1) room_1).applies x e0.platform about1 = true :=
  (Spec.applies_iff w_frames).mpr ⟨w_running, w_runnable, w_alone, w_named, w_hears, w_ripe, w_room, w_tables⟩
theorem atStart : AtStart classFile x code maxLocals ret World_1 tables_1 room_1 Calls_1 rest_1 Pre_1 launch0 p0 e0 about1 theMethod args0 below0 :=
  ⟨lists_1, trivial, launch0.admits_env _ _ _, launch0.least_env, fairChoices_fair.cas, fairChoices_fair.clock, w_frames, w_args, w_heap, w_applies, trivial, trivial, w_case⟩
end start1
theorem witness_1 : WitnessClaimed_1 := ⟨start1.p0, start1.e0, start1.about1, start1.theMethod, start1.args0, start1.below0, start1.atStart⟩
end Jvm.Pilot.@@N@@
