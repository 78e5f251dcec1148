import JvmDerived
import JvmDerived.Pilot.@@N@@Statement
import JvmDerived.Pilot.@@N@@Code
set_option linter.unusedVariables false
set_option linter.unusedSimpArgs false
namespace Jvm.Pilot.@@N@@
open Jvm Jvm.ClassFile Sem Op Lib Jvm.Free Jvm.Stand Jvm.LawKit Jvm.RoadKit Bundle Jvm.Pilot.@@N@@.Jvm.D
/-- the run goes on from here to an end at which K holds -/
def own_Go (p : Program) (e : Env) (below : List Frame) (T : State) (g : JFrame) (K : State → Outcome → Prop) : Prop := ∃ s₂ o, Steps p.tables e below (T.setTop g) s₂ ∧ K s₂ o
section OwnGo
variable {p : Program} {l : Launch} {e : Env} {R : Room} {s : State} {m : MethodId} {args : Array Value} {below : List Frame} {meth : Method} {c : Code} {T T' s₂ : State} {o : Outcome} {locs : List Loc} {cells slots : Nat} {g g' : JFrame} {K : State → Outcome → Prop}
theorem own_enter (q : g = g') (k : own_Go p e below T g' K) : ∃ s₂ o, Steps p.tables e below (T.setTop g) s₂ ∧ K s₂ o := by subst q; exact k
theorem own_st (h : ∀ t, Steps p.tables e below (T'.setTop g') t → Steps p.tables e below (T.setTop g) t) (k : own_Go p e below T' g' K) : own_Go p e below T g K := by
  obtain ⟨s2, o, h1, h2⟩ := k
  exact ⟨s2, o, h _ h1, h2⟩
theorem own_tr (h : Steps p.tables e below (T.setTop g) (T'.setTop g')) (k : own_Go p e below T' g' K) : own_Go p e below T g K := own_st (fun _ q => h.trans q) k
theorem own_fin (h : Steps p.tables e below (T.setTop g) s₂) (k : K s₂ o) : own_Go p e below T g K := ⟨s₂, o, h, k⟩
theorem own_retI (X : Stand p l e R s m args below meth c T locs cells slots) (hx : p.tables.exec = Jvm.exec) {pc : Nat} {Ls : Array Slot} {z : Int32} {rest : List Value} (hret : meth.sig.returnType = some .int) (hd : decode c.code pc = .ok (.ireturn, 1)) {fs : List Frame}
    (hl : ∀ (f : JFrame) (acts : List Action), f.method = m → f.locked = none → f.entered = [] → (doReturn e (T.setTop f) acts (some (.int z))).1 = T.setFrames fs) : Steps p.tables e below (T.setTop (mkF m pc Ls (.int z :: rest))) (T.setFrames fs) := by
  have hm' : T.vm.method? m = some meth := X.method'
  have hn : narrow .int (.int z) = .int z := rfl
  show Steps p.tables e below (T.setTop { method := m, pc := pc, locals := Ls, stack := _ :: rest, locked := none }) _
  jvm_step X.here [X.here.top, hx, hd, hm', hret, hn]
  first | (intro acts; rw [hl _ acts rfl rfl rfl]) | rw [hl _ _ rfl rfl rfl]
  exact Steps.refl _
theorem own_retD (X : Stand p l e R s m args below meth c T locs cells slots) (hx : p.tables.exec = Jvm.exec) {pc : Nat} {Ls : Array Slot} {z : UInt64} {rest : List Value} (hret : meth.sig.returnType = some .double) (hd : decode c.code pc = .ok (.dreturn, 1)) {fs : List Frame}
    (hl : ∀ (f : JFrame) (acts : List Action), f.method = m → f.locked = none → f.entered = [] → (doReturn e (T.setTop f) acts (some (.double z))).1 = T.setFrames fs) : Steps p.tables e below (T.setTop (mkF m pc Ls (.double z :: rest))) (T.setFrames fs) := by
  have hm' : T.vm.method? m = some meth := X.method'
  have hn : narrow .double (.double z) = .double z := rfl
  show Steps p.tables e below (T.setTop { method := m, pc := pc, locals := Ls, stack := _ :: rest, locked := none }) _
  jvm_step X.here [X.here.top, hx, hd, hm', hret, hn]
  first | (intro acts; rw [hl _ acts rfl rfl rfl]) | rw [hl _ _ rfl rfl rfl]
  exact Steps.refl _
theorem own_retL (X : Stand p l e R s m args below meth c T locs cells slots) (hx : p.tables.exec = Jvm.exec) {pc : Nat} {Ls : Array Slot} {z : Int64} {rest : List Value} (hret : meth.sig.returnType = some .long) (hd : decode c.code pc = .ok (.lreturn, 1)) {fs : List Frame}
    (hl : ∀ (f : JFrame) (acts : List Action), f.method = m → f.locked = none → f.entered = [] → (doReturn e (T.setTop f) acts (some (.long z))).1 = T.setFrames fs) : Steps p.tables e below (T.setTop (mkF m pc Ls (.long z :: rest))) (T.setFrames fs) := by
  have hm' : T.vm.method? m = some meth := X.method'
  have hn : narrow .long (.long z) = .long z := rfl
  show Steps p.tables e below (T.setTop { method := m, pc := pc, locals := Ls, stack := _ :: rest, locked := none }) _
  jvm_step X.here [X.here.top, hx, hd, hm', hret, hn]
  first | (intro acts; rw [hl _ acts rfl rfl rfl]) | rw [hl _ _ rfl rfl rfl]
  exact Steps.refl _
theorem own_retR (X : Stand p l e R s m args below meth c T locs cells slots) (hx : p.tables.exec = Jvm.exec) {pc : Nat} {Ls : Array Slot} {z : Value} {t : FieldType} {rest : List Value} (hz : z.isRef = true) (hret : meth.sig.returnType = some t) (ht : t.isReference = true) (hd : decode c.code pc = .ok (.areturn, 1)) {fs : List Frame}
    (hl : ∀ (f : JFrame) (acts : List Action), f.method = m → f.locked = none → f.entered = [] → (doReturn e (T.setTop f) acts (some z)).1 = T.setFrames fs) : Steps p.tables e below (T.setTop (mkF m pc Ls (z :: rest))) (T.setFrames fs) := by
  have hm' : T.vm.method? m = some meth := X.method'
  show Steps p.tables e below (T.setTop { method := m, pc := pc, locals := Ls, stack := _ :: rest, locked := none }) _
  jvm_step X.here [X.here.top, hx, hd, hm', hret, hz, ht]
  first | (intro acts; rw [hl _ acts rfl rfl rfl]) | rw [hl _ _ rfl rfl rfl]
  exact Steps.refl _
end OwnGo
section OwnFloats
open Jvm.FP.Core
theorem own_qmin64 : b64.qmin = -1074 := by decide +kernel
theorem own_zfin {s : Bool} {C : Nat} {q : Int} : zmag b64 (.fin s C q) = C * 2 ^ (q - b64.qmin).toNat := rfl
/-- a quotient is at most V, if the dividend is at most V times the divisor (all in units) -/
theorem own_div_units {C D zV : Nat} {q r e0 : Int} (hq : b64.qmin ≤ q) (hr : b64.qmin ≤ r) (h0 : e0 ≤ b64.qmin) (h1 : e0 ≤ q - r) :
    C * 2 ^ (q - r - e0).toNat * 2 ^ (r - b64.qmin).toNat = C * 2 ^ (q - b64.qmin).toNat * 2 ^ (-b64.qmin).toNat * 2 ^ (b64.qmin - e0).toNat := by
  have hm := own_qmin64
  rw [Nat.mul_assoc, ← Nat.pow_add, Nat.mul_assoc, Nat.mul_assoc, ← Nat.pow_add, ← Nat.pow_add]
  congr 2
  omega
theorem own_div_le {a b V : UInt64} {s t : Bool} {C D : Nat} {q r : Int} (ha : val64 a = .fin s C q) (hb : val64 b = .fin t D r) (hD : D ≠ 0) (hV : val64 V ≠ .nan)
    (h : zmag b64 (val64 a) * one64 ≤ zmag b64 (val64 V) * zmag b64 (val64 b)) : zmag b64 (val64 (ddiv a b)) ≤ zmag b64 (val64 V) := by
  have fa := val64_fits a
  have fb := val64_fits b
  rw [ha] at fa
  rw [hb] at fb
  rw [val64_ddiv, ha, hb]
  show zmag b64 (if D = 0 then _ else roundRatio b64 (s != t) C D (q - r)) ≤ _
  rw [if_neg hD]
  have hm := own_qmin64
  obtain ⟨e0, he⟩ : ∃ e0, e0 = min b64.qmin (q - r) := ⟨_, rfl⟩
  have h0 : e0 ≤ b64.qmin := by omega
  have h1 : e0 ≤ q - r := by omega
  refine zmag_roundRatio_le good_b64 (Nat.pos_of_ne_zero hD) (val64_fits V) hV h0 h1 ?_
  rw [ha, hb, own_zfin, own_zfin, ← pow_qmin64] at h
  have e := own_div_units (C := C) (D := D) (zV := 0) fa.2.1 fb.2.1 h0 h1
  unfold inUnits
  refine Nat.le_of_mul_le_mul_right (c := 2 ^ (r - b64.qmin).toNat) ?_ (Nat.two_pow_pos _)
  rw [e]
  have h2 := Nat.mul_le_mul_right (2 ^ (b64.qmin - e0).toNat) h
  refine Nat.le_trans h2 (Nat.le_of_eq ?_)
  generalize zmag b64 (val64 V) = zV
  generalize 2 ^ (r - b64.qmin).toNat = X
  generalize 2 ^ (b64.qmin - e0).toNat = Y
  ac_rfl
theorem own_div_ge {a b V : UInt64} {s t : Bool} {C D : Nat} {q r : Int} (ha : val64 a = .fin s C q) (hb : val64 b = .fin t D r) (hD : D ≠ 0)
    (h : zmag b64 (val64 V) * zmag b64 (val64 b) ≤ zmag b64 (val64 a) * one64) : zmag b64 (val64 V) ≤ zmag b64 (val64 (ddiv a b)) := by
  have fa := val64_fits a
  have fb := val64_fits b
  rw [ha] at fa
  rw [hb] at fb
  rw [val64_ddiv, ha, hb]
  show _ ≤ zmag b64 (if D = 0 then _ else roundRatio b64 (s != t) C D (q - r))
  rw [if_neg hD]
  have hm := own_qmin64
  obtain ⟨e0, he⟩ : ∃ e0, e0 = min b64.qmin (q - r) := ⟨_, rfl⟩
  have h0 : e0 ≤ b64.qmin := by omega
  have h1 : e0 ≤ q - r := by omega
  refine zmag_roundRatio_ge good_b64 (Nat.pos_of_ne_zero hD) (val64_fits V) h0 h1 ?_
  rw [ha, hb, own_zfin, own_zfin, ← pow_qmin64] at h
  have e := own_div_units (C := C) (D := D) (zV := 0) fa.2.1 fb.2.1 h0 h1
  unfold inUnits
  refine Nat.le_of_mul_le_mul_right (c := 2 ^ (r - b64.qmin).toNat) ?_ (Nat.two_pow_pos _)
  rw [e]
  have h2 := Nat.mul_le_mul_right (2 ^ (b64.qmin - e0).toNat) h
  refine Nat.le_trans (Nat.le_of_eq ?_) h2
  generalize zmag b64 (val64 V) = zV
  generalize 2 ^ (r - b64.qmin).toNat = X
  generalize 2 ^ (b64.qmin - e0).toNat = Y
  ac_rfl
/-- rounding whole numbers keeps their order -/
theorem own_round_mono {A B c d : Nat} {q r : Int} (h : A ≤ B) (hA : roundRatio b64 false A 1 0 = .fin false c q) (hB : roundRatio b64 false B 1 0 = .fin false d r) :
    zmag b64 (roundRatio b64 false A 1 0) ≤ zmag b64 (roundRatio b64 false B 1 0) := by
  have fA := roundRatio_fits good_b64 false A (B := 1) (by decide) 0
  have fB := roundRatio_fits good_b64 false B (B := 1) (by decide) 0
  have hm := own_qmin64
  rw [hA] at fA
  rw [hB] at fB
  have d1 := roundRatio_nearest good_b64 (by decide) hA fB.1 fB.2.1 (e0 := b64.qmin) (Int.le_refl _) (by omega)
  have d2 := roundRatio_nearest good_b64 (by decide) hB fA.1 fA.2.1 (e0 := b64.qmin) (Int.le_refl _) (by omega)
  rw [hA, hB]
  show inUnits c q b64.qmin ≤ inUnits d r b64.qmin
  unfold distance at d1 d2
  have hx : inUnits A 0 b64.qmin ≤ inUnits B 0 b64.qmin := Nat.mul_le_mul_right _ h
  have hxe : inUnits A 0 b64.qmin = inUnits B 0 b64.qmin → A = B := fun e => Nat.eq_of_mul_eq_mul_right (Nat.two_pow_pos _) e
  refine Nat.le_of_not_lt fun hlt => ?_
  have hAB : A = B := hxe (by
    generalize inUnits A 0 b64.qmin = x at *
    generalize inUnits B 0 b64.qmin = y at *
    generalize inUnits c q b64.qmin = u at *
    generalize inUnits d r b64.qmin = v at *
    omega)
  subst hAB
  have := hA.symm.trans hB
  cases this
  exact absurd hlt (Nat.lt_irrefl _)
theorem own_val_l2d {a : Int64} (h : 0 ≤ a.toInt) : ∃ c q, val64 (l2d a) = .fin false c q ∧ val64 (l2d a) = roundRatio b64 false a.toInt.natAbs 1 0 := by
  obtain ⟨c, q, e⟩ := l2d_shape a
  have hs : decide (a.toInt < 0) = false := by simp; omega
  rw [hs] at e
  refine ⟨c, q, e, ?_⟩
  rw [val64_l2d]
  show roundRatio b64 (decide (a.toInt < 0)) a.toInt.natAbs 1 0 = _
  rw [hs]
theorem own_l2d_mono {a b : Int64} (h0 : 0 ≤ a.toInt) (h : a.toInt ≤ b.toInt) : zmag b64 (val64 (l2d a)) ≤ zmag b64 (val64 (l2d b)) := by
  obtain ⟨c, q, e1, e2⟩ := own_val_l2d h0
  obtain ⟨d, r, e3, e4⟩ := own_val_l2d (a := b) (by omega)
  rw [e2, e4]
  exact own_round_mono (by omega) (e2.symm.trans e1) (e4.symm.trans e3)
theorem own_sgn_div {a b : UInt64} {s t : Bool} {C D : Nat} {q r : Int} (ha : val64 a = .fin s C q) (hb : val64 b = .fin t D r) (hD : D ≠ 0) : sgn (val64 (ddiv a b)) = (s != t) := by
  rw [val64_ddiv, ha, hb]
  show sgn (if D = 0 then _ else roundRatio b64 (s != t) C D (q - r)) = _
  rw [if_neg hD, sgn_roundRatio]
theorem own_div_nn {a b : UInt64} {s t : Bool} {C D : Nat} {q r : Int} (ha : val64 a = .fin s C q) (hb : val64 b = .fin t D r) (hD : D ≠ 0) : val64 (ddiv a b) ≠ .nan := by
  rw [val64_ddiv, ha, hb]
  show (if D = 0 then _ else roundRatio b64 (s != t) C D (q - r)) ≠ _
  rw [if_neg hD]
  exact roundRatio_ne_nan _ _ _ _ _
theorem own_one_nn : val64 dconst1 ≠ .nan := by decide +kernel
theorem own_one_zmag : zmag b64 (val64 dconst1) = one64 := by decide +kernel
theorem own_zero_nn : val64 dconst0 ≠ .nan := by decide +kernel
theorem own_zero_zmag : zmag b64 (val64 dconst0) = 0 := by decide +kernel
end OwnFloats
section OwnA
open Jvm.FP.Core
theorem own_zval_l2d {a : Int64} (h : a.toInt.natAbs ≤ 2 ^ 53) : zval b64 (val64 (l2d a)) = a.toInt * (one64 : Int) := by
  have h1 := l2d_zval_le (n := a) (V := l2d a) (l2d_fin a).ne_nan
  have hw := whole_zval good_b64 (val64_fits (l2d a)) (l2d_int h)
  rw [pow_qmin64] at hw
  exact hw
theorem own_fin_l2d (a : Int64) : ∃ c q, val64 (l2d a) = .fin (decide (a.toInt < 0)) c q := l2d_shape a
theorem own_zmag_l2d {a : Int64} (h : a.toInt.natAbs ≤ 2 ^ 53) : zmag b64 (val64 (l2d a)) = a.toInt.natAbs * one64 := by
  have hv := own_zval_l2d h
  obtain ⟨c, q, e⟩ := own_fin_l2d a
  unfold zval at hv
  rw [show FP.Core.sgn (val64 (l2d a)) = decide (a.toInt < 0) from by rw [e]; rfl] at hv
  have hp := one64_pos
  by_cases hs : a.toInt < 0
  · simp only [hs, decide_true, signed, if_true] at hv
    have : (zmag b64 (val64 (l2d a)) : Int) = ((a.toInt.natAbs * one64 : Nat) : Int) := by
      rw [Int.natCast_mul, show ((a.toInt.natAbs : Nat) : Int) = -a.toInt by omega, Int.neg_mul]; omega
    exact Int.ofNat.inj this
  · simp only [hs, decide_false, signed, if_false, Bool.false_eq_true] at hv
    have : (zmag b64 (val64 (l2d a)) : Int) = ((a.toInt.natAbs * one64 : Nat) : Int) := by
      rw [Int.natCast_mul, show ((a.toInt.natAbs : Nat) : Int) = a.toInt by omega]; exact hv
    exact Int.ofNat.inj this
/-- a quotient of whole numbers by n = 1, 2, 3: its sign and its place among the whole numbers -/
theorem own_quot {s n : Int64} (hs : s.toInt.natAbs ≤ 2 ^ 53) (hn : 0 < n.toInt) (hn2 : n.toInt ≤ 3) :
    val64 (ddiv (l2d s) (l2d n)) ≠ .nan ∧ (∀ v : Int64, v.toInt.natAbs ≤ 2 ^ 53 → v.toInt * n.toInt ≤ s.toInt → zval b64 (val64 (l2d v)) ≤ zval b64 (val64 (ddiv (l2d s) (l2d n)))) ∧ (∀ v : Int64, v.toInt.natAbs ≤ 2 ^ 53 → s.toInt ≤ v.toInt * n.toInt → zval b64 (val64 (ddiv (l2d s) (l2d n))) ≤ zval b64 (val64 (l2d v))) := by
  obtain ⟨A, q, e1⟩ := own_fin_l2d s
  obtain ⟨D, r, e2⟩ := own_fin_l2d n
  have hns : decide (n.toInt < 0) = false := by simp; omega
  rw [hns] at e2
  have hzn := own_zmag_l2d (a := n) (by omega)
  have hzs := own_zmag_l2d hs
  have hp := one64_pos
  have hD : D ≠ 0 := fun h => by
    subst h
    rw [e2, own_zfin, Nat.zero_mul] at hzn
    have : 0 < n.toInt.natAbs * one64 := Nat.mul_pos (by omega) hp
    omega
  have hnn := own_div_nn e1 e2 hD
  have hsg := own_sgn_div e1 e2 hD
  rw [Bool.bne_false] at hsg
  have hzq : zval b64 (val64 (ddiv (l2d s) (l2d n))) = signed (decide (s.toInt < 0)) (zmag b64 (val64 (ddiv (l2d s) (l2d n)))) := by unfold zval; rw [hsg]
  refine ⟨hnn, fun v hv hle => ?_, fun v hv hle => ?_⟩
  · rw [hzq, own_zval_l2d hv]
    have hzv := own_zmag_l2d hv
    obtain ⟨c3, q3, e3⟩ := own_fin_l2d v
    have vnn : val64 (l2d v) ≠ .nan := by rw [e3]; exact Datum.noConfusion
    by_cases sn : s.toInt < 0
    · -- the quotient is not above nought: its magnitude is at most v's
      have vneg : v.toInt < 0 := by
        refine Int.lt_of_not_ge fun h => ?_
        have := Int.mul_nonneg h (Int.le_of_lt hn)
        omega
      have hm := own_div_le e1 e2 hD vnn (by
        rw [hzs, hzn, hzv]
        have h1 : s.toInt.natAbs ≤ v.toInt.natAbs * n.toInt.natAbs := by
          rw [← Int.natAbs_mul]; omega
        calc s.toInt.natAbs * one64 * one64 ≤ v.toInt.natAbs * n.toInt.natAbs * one64 * one64 := Nat.mul_le_mul_right _ (Nat.mul_le_mul_right _ h1)
          _ = v.toInt.natAbs * one64 * (n.toInt.natAbs * one64) := by generalize one64 = P; ac_rfl)
      rw [hzv] at hm
      simp only [sn, decide_true, signed, if_true]
      have h2 : ((zmag b64 (val64 (ddiv (l2d s) (l2d n))) : Nat) : Int) ≤ ((v.toInt.natAbs * one64 : Nat) : Int) := Int.ofNat_le.mpr hm
      rw [Int.natCast_mul, show ((v.toInt.natAbs : Nat) : Int) = -v.toInt by omega, Int.neg_mul] at h2
      omega
    · simp only [sn, decide_false, signed, if_false, Bool.false_eq_true]
      by_cases vneg : v.toInt < 0
      · have h2 : v.toInt * (one64 : Int) ≤ 0 := Int.mul_nonpos_of_nonpos_of_nonneg (Int.le_of_lt vneg) (Int.natCast_nonneg _)
        have := Int.natCast_nonneg (zmag b64 (val64 (ddiv (l2d s) (l2d n))))
        omega
      · have hm := own_div_ge (V := l2d v) e1 e2 hD (by
          rw [hzs, hzn, hzv]
          have h1 : v.toInt.natAbs * n.toInt.natAbs ≤ s.toInt.natAbs := by
            rw [← Int.natAbs_mul]
            have := Int.mul_nonneg (show 0 ≤ v.toInt by omega) (Int.le_of_lt hn)
            omega
          calc v.toInt.natAbs * one64 * (n.toInt.natAbs * one64) = v.toInt.natAbs * n.toInt.natAbs * one64 * one64 := by generalize one64 = P; ac_rfl
            _ ≤ s.toInt.natAbs * one64 * one64 := Nat.mul_le_mul_right _ (Nat.mul_le_mul_right _ h1))
        rw [hzv] at hm
        have h2 : ((v.toInt.natAbs * one64 : Nat) : Int) ≤ ((zmag b64 (val64 (ddiv (l2d s) (l2d n))) : Nat) : Int) := Int.ofNat_le.mpr hm
        rw [Int.natCast_mul, show ((v.toInt.natAbs : Nat) : Int) = v.toInt by omega] at h2
        exact h2
  · rw [hzq, own_zval_l2d hv]
    have hzv := own_zmag_l2d hv
    obtain ⟨c3, q3, e3⟩ := own_fin_l2d v
    have vnn : val64 (l2d v) ≠ .nan := by rw [e3]; exact Datum.noConfusion
    by_cases sn : s.toInt < 0
    · simp only [sn, decide_true, signed, if_true]
      by_cases vneg : v.toInt < 0
      · have hm := own_div_ge (V := l2d v) e1 e2 hD (by
          rw [hzs, hzn, hzv]
          have h1 : v.toInt.natAbs * n.toInt.natAbs ≤ s.toInt.natAbs := by
            rw [← Int.natAbs_mul]
            have := Int.mul_nonpos_of_nonpos_of_nonneg (Int.le_of_lt vneg) (Int.le_of_lt hn)
            omega
          calc v.toInt.natAbs * one64 * (n.toInt.natAbs * one64) = v.toInt.natAbs * n.toInt.natAbs * one64 * one64 := by generalize one64 = P; ac_rfl
            _ ≤ s.toInt.natAbs * one64 * one64 := Nat.mul_le_mul_right _ (Nat.mul_le_mul_right _ h1))
        rw [hzv] at hm
        have h2 : ((v.toInt.natAbs * one64 : Nat) : Int) ≤ ((zmag b64 (val64 (ddiv (l2d s) (l2d n))) : Nat) : Int) := Int.ofNat_le.mpr hm
        rw [Int.natCast_mul, show ((v.toInt.natAbs : Nat) : Int) = -v.toInt by omega, Int.neg_mul] at h2
        omega
      · have h2 : 0 ≤ v.toInt * (one64 : Int) := Int.mul_nonneg (by omega) (Int.natCast_nonneg _)
        have := Int.natCast_nonneg (zmag b64 (val64 (ddiv (l2d s) (l2d n))))
        omega
    · simp only [sn, decide_false, signed, if_false, Bool.false_eq_true]
      have vpos : 0 ≤ v.toInt := by
        refine Int.le_of_not_gt fun h => ?_
        have := Int.mul_neg_of_neg_of_pos h hn
        omega
      have hm := own_div_le e1 e2 hD vnn (by
        rw [hzs, hzn, hzv]
        have h1 : s.toInt.natAbs ≤ v.toInt.natAbs * n.toInt.natAbs := by
          rw [← Int.natAbs_mul]; omega
        calc s.toInt.natAbs * one64 * one64 ≤ v.toInt.natAbs * n.toInt.natAbs * one64 * one64 := Nat.mul_le_mul_right _ (Nat.mul_le_mul_right _ h1)
          _ = v.toInt.natAbs * one64 * (n.toInt.natAbs * one64) := by generalize one64 = P; ac_rfl)
      rw [hzv] at hm
      have h2 : ((zmag b64 (val64 (ddiv (l2d s) (l2d n))) : Nat) : Int) ≤ ((v.toInt.natAbs * one64 : Nat) : Int) := Int.ofNat_le.mpr hm
      rw [Int.natCast_mul, show ((v.toInt.natAbs : Nat) : Int) = v.toInt by omega] at h2
      exact h2
def own_avg (s : Int64) (n : Int32) : UInt64 := FP.ddiv (FP.l2d s) (FP.i2d n)
theorem own_avg_facts {s : Int64} {n : Int32} (hs : s.toInt.natAbs ≤ 2 ^ 53) (hn : 0 < n.toInt) (hn2 : n.toInt ≤ 3) :
    Jvm.Free.Fl.NoNaN64 (own_avg s n) ∧ (∀ v : Int64, v.toInt.natAbs ≤ 2 ^ 53 → v.toInt * n.toInt ≤ s.toInt → ¬ (cmpValue (FP.dcmp (own_avg s n) (FP.l2d v)) .g < (0 : Int32))) ∧ (∀ v : Int64, v.toInt.natAbs ≤ 2 ^ 53 → s.toInt ≤ v.toInt * n.toInt → ¬ (cmpValue (FP.dcmp (FP.l2d v) (own_avg s n)) .g < (0 : Int32))) := by
  have en : n.toInt64.toInt = n.toInt := Int32.toInt_toInt64 n
  obtain ⟨h1, h2, h3⟩ := own_quot (n := n.toInt64) hs (by omega) (by omega)
  have ea : own_avg s n = ddiv (l2d s) (l2d n.toInt64) := by unfold own_avg; rw [i2d_w]
  rw [ea]
  refine ⟨Jvm.Free.Fl.val64_no.mpr h1, fun v hv hle => ?_, fun v hv hle => ?_⟩
  · have hz := h2 v hv (by rw [en]; exact hle)
    have hc := dcmp_zval h1 (l2d_fin v).ne_nan
    show ¬ (cmpValue (dcmp (ddiv (l2d s) (l2d n.toInt64)) (l2d v)) .g < (0 : Int32))
    rw [hc]
    rcases hcmp : compare (zval b64 (val64 (ddiv (l2d s) (l2d n.toInt64)))) (zval b64 (val64 (l2d v))) with _ | _ | _
    · rw [compare_lt_iff] at hcmp; omega
    · decide
    · decide
  · have hz := h3 v hv (by rw [en]; exact hle)
    have hc := dcmp_zval (l2d_fin v).ne_nan h1
    show ¬ (cmpValue (dcmp (l2d v) (ddiv (l2d s) (l2d n.toInt64))) .g < (0 : Int32))
    rw [hc]
    rcases hcmp : compare (zval b64 (val64 (l2d v))) (zval b64 (val64 (ddiv (l2d s) (l2d n.toInt64)))) with _ | _ | _
    · rw [compare_lt_iff] at hcmp; omega
    · decide
    · decide
theorem own_zero_self : cmpValue (FP.dcmp FP.dconst0 FP.dconst0) .l = (0 : Int32) := by decide +kernel
end OwnA
theorem d4_0 : decode jdk_29_method_70_code 0 = .ok (.lload_n 0, 1) := by decide +kernel
theorem d4_1 : decode jdk_29_method_70_code 1 = .ok (.lload_n 2, 1) := by decide +kernel
theorem d4_2 : decode jdk_29_method_70_code 2 = .ok (.lcmp, 1) := by decide +kernel
theorem d4_3 : decode jdk_29_method_70_code 3 = .ok (.ifCond .gt 7, 3) := by decide +kernel
theorem d4_6 : decode jdk_29_method_70_code 6 = .ok (.lload_n 0, 1) := by decide +kernel
theorem d4_7 : decode jdk_29_method_70_code 7 = .ok (.goto 4, 3) := by decide +kernel
theorem d4_10 : decode jdk_29_method_70_code 10 = .ok (.lload_n 2, 1) := by decide +kernel
theorem d4_11 : decode jdk_29_method_70_code 11 = .ok (.lreturn, 1) := by decide +kernel
theorem ef_rmMin (m : MethodId) (x0 : Int64) (x1 : Int64) : entryFrame m #[(.long x0), (.long x1)] 4 = mkF m 0 #[.val (.long x0), .second, .val (.long x1), .second] [] := by first | (simp [entryFrame, mkF, argsToLocals, Value.category]; done) | rfl
def Q_rmMin (Z : State) (x : Int64) (y : Int64) (h0 : Heap) (n0 : Nat) (v : Option Value) (h : Heap) (L : List Loc) : Prop := ∃ r : Int64, v = some (.long r) ∧ Fr n0 L ∧ h = h0 ∧ ((x.toInt ≤ y.toInt ∧ r = x) ∨ (y.toInt ≤ x.toInt ∧ r = y))
set_option maxRecDepth 65536 in
set_option maxHeartbeats 40000000 in
theorem rmMin (l : Launch) (Z : State) (a0 : Array Value) (hw : ∀ d ∈ tables_1, d.before a0 Z = true) (ws : List Jvm.Cond) (x : Int64) (y : Int64) (h0 : Heap) (n0 : Nat) (Z0 : n0 ≤ h0.size) :
    MetFree l (⟨"java/lang/Math", "min", "(JJ)J"⟩ : MethodName) (head1 (Jvm.Cond.code (⟨"java/lang/Math", "min", "(JJ)J"⟩ : MethodName) jdk_29_method_70_code 4 (some .long) :: ws) ({ frames := 0, cells := 0, slots := 0, locals := 0 } : Room)) (fun a U => a = #[(.long x), (.long y)] ∧ Z.Warmed39 U.vm ∧ U.heap = h0) (fun _ _ _ _ _ => True) (fun _ U o U' => ∃ v L, o = .returned v ∧ Q_rmMin Z x y h0 n0 v U'.heap L ∧ FrameEnd U o U' L ({ frames := 0, cells := 0, slots := 0, locals := 0 } : Room).cells ({ frames := 0, cells := 0, slots := 0, locals := 0 } : Room).slots) := by
  refine MetFree.of_bodySF (Jvm.Free.JP.mathPlain rfl (by decide +kernel)) hisR ?_
  intro p e s m args below meth c s₁ Bd hml0 hP hK
  obtain ⟨rfl, hZ, hh⟩ := hP
  have hx := Bd.exec
  have hby := Bd.bytes
  have hml : c.maxLocals = 4 := hml0
  have hown : s.vm.findClass "java/lang/Math" = some m.cls := findClass_of_methodNamed Bd.named
  have hnm := (name_of_methodNamed Bd.named Bd.method).1
  have X0 : Stand p l e ({ frames := 0, cells := 0, slots := 0, locals := 0 } : Room) s m #[(.long x), (.long y)] below meth c s₁ [] 0 0 := Stand.of_body Bd
  have e0 : s₁.heap = h0 := by rw [← hh, Bd.state]; rfl
  have N0 := Fr.nil n0
  refine own_enter (ef_rmMin m x y) ?_
  refine own_st (fun t_ k_ => XS.lloadN X0.here hx rfl (hb hby d4_0) rfl k_) ?_
  show own_Go p e below s₁ (mkF m 1 #[.val (.long x), .second, .val (.long y), .second] [(.long x)]) _
  refine own_st (fun t_ k_ => XS.lloadN X0.here hx rfl (hb hby d4_1) rfl k_) ?_
  show own_Go p e below s₁ (mkF m 2 #[.val (.long x), .second, .val (.long y), .second] [(.long y), (.long x)]) _
  refine own_st (fun t_ k_ => XS.lcmp X0.here hx rfl (hb hby d4_2) rfl k_) ?_
  show own_Go p e below s₁ (mkF m 3 #[.val (.long x), .second, .val (.long y), .second] [(.int (lcmpW x y))]) _
  by_cases hq : (0 : Int32) < (lcmpW x y)
  · skip
    refine own_st (fun t_ k_ => XS.ifYes X0.here hx rfl (pc0 := 3) (pc' := 10) rfl (hb hby d4_3) rfl ((if0 _ _).trans (tlt hq).2.2.1) (by decide) (by decide) k_) ?_
    show own_Go p e below s₁ (mkF m 10 #[.val (.long x), .second, .val (.long y), .second] []) _
    refine own_st (fun t_ k_ => XS.lloadN X0.here hx rfl (hb hby d4_10) rfl k_) ?_
    show own_Go p e below s₁ (mkF m 11 #[.val (.long x), .second, .val (.long y), .second] [(.long y)]) _
    obtain ⟨fs, hr, hrun, hended, hW, hsame⟩ := X0.leave (v := some (.long y)) (fun h => by rw [Bd.returns] at h; cases h)
    refine own_fin (own_retL X0 hx Bd.returns (hb hby d4_11) hr) ⟨hrun, hended, _, _, rfl, ?_, ⟨_, rfl⟩, hW, hsame.mono (by decide) (by decide)⟩
    show Q_rmMin Z x y h0 n0 _ s₁.heap _
    rw [e0]
    exact ⟨y, rfl, N0, rfl, (Or.inr ⟨by have h := (lw_gt x y).mp hq; rw [Int64.lt_iff_toInt_lt] at h; omega, rfl⟩)⟩
  · skip
    refine own_st (fun t_ k_ => XS.ifNo X0.here hx rfl (hb hby d4_3) rfl ((if0 _ _).trans (flt hq).2.2.1) k_) ?_
    show own_Go p e below s₁ (mkF m 6 #[.val (.long x), .second, .val (.long y), .second] []) _
    refine own_st (fun t_ k_ => XS.lloadN X0.here hx rfl (hb hby d4_6) rfl k_) ?_
    show own_Go p e below s₁ (mkF m 7 #[.val (.long x), .second, .val (.long y), .second] [(.long x)]) _
    refine own_st (fun t_ k_ => XS.goto X0.here hx rfl (pc0 := 7) (pc' := 11) rfl (hb hby d4_7) (by decide) (by decide) k_) ?_
    show own_Go p e below s₁ (mkF m 11 #[.val (.long x), .second, .val (.long y), .second] [(.long x)]) _
    obtain ⟨fs, hr, hrun, hended, hW, hsame⟩ := X0.leave (v := some (.long x)) (fun h => by rw [Bd.returns] at h; cases h)
    refine own_fin (own_retL X0 hx Bd.returns (hb hby d4_11) hr) ⟨hrun, hended, _, _, rfl, ?_, ⟨_, rfl⟩, hW, hsame.mono (by decide) (by decide)⟩
    show Q_rmMin Z x y h0 n0 _ s₁.heap _
    rw [e0]
    exact ⟨x, rfl, N0, rfl, (Or.inl ⟨by have h : ¬ y < x := fun h => hq ((lw_gt x y).mpr h); rw [Int64.lt_iff_toInt_lt] at h; omega, rfl⟩)⟩
theorem d5_0 : decode jdk_29_method_66_code 0 = .ok (.lload_n 0, 1) := by decide +kernel
theorem d5_1 : decode jdk_29_method_66_code 1 = .ok (.lload_n 2, 1) := by decide +kernel
theorem d5_2 : decode jdk_29_method_66_code 2 = .ok (.lcmp, 1) := by decide +kernel
theorem d5_3 : decode jdk_29_method_66_code 3 = .ok (.ifCond .lt 7, 3) := by decide +kernel
theorem d5_6 : decode jdk_29_method_66_code 6 = .ok (.lload_n 0, 1) := by decide +kernel
theorem d5_7 : decode jdk_29_method_66_code 7 = .ok (.goto 4, 3) := by decide +kernel
theorem d5_10 : decode jdk_29_method_66_code 10 = .ok (.lload_n 2, 1) := by decide +kernel
theorem d5_11 : decode jdk_29_method_66_code 11 = .ok (.lreturn, 1) := by decide +kernel
theorem ef_rmMax (m : MethodId) (x0 : Int64) (x1 : Int64) : entryFrame m #[(.long x0), (.long x1)] 4 = mkF m 0 #[.val (.long x0), .second, .val (.long x1), .second] [] := by first | (simp [entryFrame, mkF, argsToLocals, Value.category]; done) | rfl
def Q_rmMax (Z : State) (x : Int64) (y : Int64) (h0 : Heap) (n0 : Nat) (v : Option Value) (h : Heap) (L : List Loc) : Prop := ∃ r : Int64, v = some (.long r) ∧ Fr n0 L ∧ h = h0 ∧ ((x.toInt ≤ y.toInt ∧ r = y) ∨ (y.toInt ≤ x.toInt ∧ r = x))
set_option maxRecDepth 65536 in
set_option maxHeartbeats 40000000 in
theorem rmMax (l : Launch) (Z : State) (a0 : Array Value) (hw : ∀ d ∈ tables_1, d.before a0 Z = true) (ws : List Jvm.Cond) (x : Int64) (y : Int64) (h0 : Heap) (n0 : Nat) (Z0 : n0 ≤ h0.size) :
    MetFree l (⟨"java/lang/Math", "max", "(JJ)J"⟩ : MethodName) (head1 (Jvm.Cond.code (⟨"java/lang/Math", "max", "(JJ)J"⟩ : MethodName) jdk_29_method_66_code 4 (some .long) :: ws) ({ frames := 0, cells := 0, slots := 0, locals := 0 } : Room)) (fun a U => a = #[(.long x), (.long y)] ∧ Z.Warmed39 U.vm ∧ U.heap = h0) (fun _ _ _ _ _ => True) (fun _ U o U' => ∃ v L, o = .returned v ∧ Q_rmMax Z x y h0 n0 v U'.heap L ∧ FrameEnd U o U' L ({ frames := 0, cells := 0, slots := 0, locals := 0 } : Room).cells ({ frames := 0, cells := 0, slots := 0, locals := 0 } : Room).slots) := by
  refine MetFree.of_bodySF (Jvm.Free.JP.mathPlain rfl (by decide +kernel)) hisR ?_
  intro p e s m args below meth c s₁ Bd hml0 hP hK
  obtain ⟨rfl, hZ, hh⟩ := hP
  have hx := Bd.exec
  have hby := Bd.bytes
  have hml : c.maxLocals = 4 := hml0
  have hown : s.vm.findClass "java/lang/Math" = some m.cls := findClass_of_methodNamed Bd.named
  have hnm := (name_of_methodNamed Bd.named Bd.method).1
  have X0 : Stand p l e ({ frames := 0, cells := 0, slots := 0, locals := 0 } : Room) s m #[(.long x), (.long y)] below meth c s₁ [] 0 0 := Stand.of_body Bd
  have e0 : s₁.heap = h0 := by rw [← hh, Bd.state]; rfl
  have N0 := Fr.nil n0
  refine own_enter (ef_rmMax m x y) ?_
  refine own_st (fun t_ k_ => XS.lloadN X0.here hx rfl (hb hby d5_0) rfl k_) ?_
  show own_Go p e below s₁ (mkF m 1 #[.val (.long x), .second, .val (.long y), .second] [(.long x)]) _
  refine own_st (fun t_ k_ => XS.lloadN X0.here hx rfl (hb hby d5_1) rfl k_) ?_
  show own_Go p e below s₁ (mkF m 2 #[.val (.long x), .second, .val (.long y), .second] [(.long y), (.long x)]) _
  refine own_st (fun t_ k_ => XS.lcmp X0.here hx rfl (hb hby d5_2) rfl k_) ?_
  show own_Go p e below s₁ (mkF m 3 #[.val (.long x), .second, .val (.long y), .second] [(.int (lcmpW x y))]) _
  by_cases hq : (lcmpW x y) < (0 : Int32)
  · skip
    refine own_st (fun t_ k_ => XS.ifYes X0.here hx rfl (pc0 := 3) (pc' := 10) rfl (hb hby d5_3) rfl ((if0 _ _).trans (tlt hq).1) (by decide) (by decide) k_) ?_
    show own_Go p e below s₁ (mkF m 10 #[.val (.long x), .second, .val (.long y), .second] []) _
    refine own_st (fun t_ k_ => XS.lloadN X0.here hx rfl (hb hby d5_10) rfl k_) ?_
    show own_Go p e below s₁ (mkF m 11 #[.val (.long x), .second, .val (.long y), .second] [(.long y)]) _
    obtain ⟨fs, hr, hrun, hended, hW, hsame⟩ := X0.leave (v := some (.long y)) (fun h => by rw [Bd.returns] at h; cases h)
    refine own_fin (own_retL X0 hx Bd.returns (hb hby d5_11) hr) ⟨hrun, hended, _, _, rfl, ?_, ⟨_, rfl⟩, hW, hsame.mono (by decide) (by decide)⟩
    show Q_rmMax Z x y h0 n0 _ s₁.heap _
    rw [e0]
    exact ⟨y, rfl, N0, rfl, (Or.inl ⟨by have h := (lw_lt x y).mp hq; rw [Int64.lt_iff_toInt_lt] at h; omega, rfl⟩)⟩
  · skip
    refine own_st (fun t_ k_ => XS.ifNo X0.here hx rfl (hb hby d5_3) rfl ((if0 _ _).trans (flt hq).1) k_) ?_
    show own_Go p e below s₁ (mkF m 6 #[.val (.long x), .second, .val (.long y), .second] []) _
    refine own_st (fun t_ k_ => XS.lloadN X0.here hx rfl (hb hby d5_6) rfl k_) ?_
    show own_Go p e below s₁ (mkF m 7 #[.val (.long x), .second, .val (.long y), .second] [(.long x)]) _
    refine own_st (fun t_ k_ => XS.goto X0.here hx rfl (pc0 := 7) (pc' := 11) rfl (hb hby d5_7) (by decide) (by decide) k_) ?_
    show own_Go p e below s₁ (mkF m 11 #[.val (.long x), .second, .val (.long y), .second] [(.long x)]) _
    obtain ⟨fs, hr, hrun, hended, hW, hsame⟩ := X0.leave (v := some (.long x)) (fun h => by rw [Bd.returns] at h; cases h)
    refine own_fin (own_retL X0 hx Bd.returns (hb hby d5_11) hr) ⟨hrun, hended, _, _, rfl, ?_, ⟨_, rfl⟩, hW, hsame.mono (by decide) (by decide)⟩
    show Q_rmMax Z x y h0 n0 _ s₁.heap _
    rw [e0]
    exact ⟨x, rfl, N0, rfl, (Or.inr ⟨by have h : ¬ x < y := fun h => hq ((lw_lt x y).mpr h); rw [Int64.lt_iff_toInt_lt] at h; omega, rfl⟩)⟩
theorem d1_0 : decode prog_17_method_1_code 0 = .ok (.aload_n 0, 1) := by decide +kernel
theorem d1_1 : decode prog_17_method_1_code 1 = .ok (.invokespecial 1, 3) := by decide +kernel
theorem d1_4 : decode prog_17_method_1_code 4 = .ok (.aload_n 0, 1) := by decide +kernel
theorem d1_5 : decode prog_17_method_1_code 5 = .ok (.aload_n 1, 1) := by decide +kernel
theorem d1_6 : decode prog_17_method_1_code 6 = .ok (.putfield 7, 3) := by decide +kernel
theorem d1_9 : decode prog_17_method_1_code 9 = .ok (.aload_n 0, 1) := by decide +kernel
theorem d1_10 : decode prog_17_method_1_code 10 = .ok (.aload_n 2, 1) := by decide +kernel
theorem d1_11 : decode prog_17_method_1_code 11 = .ok (.putfield 13, 3) := by decide +kernel
theorem d1_14 : decode prog_17_method_1_code 14 = .ok (.lconst 0, 1) := by decide +kernel
theorem d1_15 : decode prog_17_method_1_code 15 = .ok (.lstore_n 3, 1) := by decide +kernel
theorem d1_16 : decode prog_17_method_1_code 16 = .ok (.aload_n 1, 1) := by decide +kernel
theorem d1_17 : decode prog_17_method_1_code 17 = .ok (.astore 5, 2) := by decide +kernel
theorem d1_19 : decode prog_17_method_1_code 19 = .ok (.aload 5, 2) := by decide +kernel
theorem d1_21 : decode prog_17_method_1_code 21 = .ok (.arraylength, 1) := by decide +kernel
theorem d1_22 : decode prog_17_method_1_code 22 = .ok (.istore 6, 2) := by decide +kernel
theorem d1_24 : decode prog_17_method_1_code 24 = .ok (.iconst 0, 1) := by decide +kernel
theorem d1_25 : decode prog_17_method_1_code 25 = .ok (.istore 7, 2) := by decide +kernel
theorem d1_27 : decode prog_17_method_1_code 27 = .ok (.iload 7, 2) := by decide +kernel
theorem d1_29 : decode prog_17_method_1_code 29 = .ok (.iload 6, 2) := by decide +kernel
theorem d1_31 : decode prog_17_method_1_code 31 = .ok (.if_icmp .ge 22, 3) := by decide +kernel
theorem d1_53 : decode prog_17_method_1_code 53 = .ok (.aload_n 0, 1) := by decide +kernel
theorem d1_54 : decode prog_17_method_1_code 54 = .ok (.lload_n 3, 1) := by decide +kernel
theorem d1_55 : decode prog_17_method_1_code 55 = .ok (.putfield 17, 3) := by decide +kernel
theorem d1_58 : decode prog_17_method_1_code 58 = .ok (.return_, 1) := by decide +kernel
theorem pn_1 : plainName "com/example/descriptor/descriptor/engine/index/InvertedField" = true := by first | (simp [plainName, overriddenIn]; done) | decide +kernel
theorem ef_rmIn0 (m : MethodId) (x0 : Addr) (x1 : Addr) : entryFrame m #[(.ref x0), (.ref x1), .null] 9 = mkF m 0 #[.val (.ref x0), .val (.ref x1), .val .null, .unset, .unset, .unset, .unset, .unset, .unset] [] := by first | (simp [entryFrame, mkF, argsToLocals, Value.category]; done) | rfl
def Q_rmIn0 (Z : State) (a1 : Addr) (a2 : Addr) (ki : ClassId) (u1 : Value) (u2 : Value) (u3 : Value) (h0 : Heap) (n0 : Nat) (v : Option Value) (h : Heap) (L : List Loc) : Prop := v = none ∧ Fr n0 L ∧ Keep h0 h [a1] ∧ Exa Z h a1 "com/example/descriptor/descriptor/engine/index/InvertedField" ∧ Fld Z h a1 "com/example/descriptor/descriptor/engine/index/InvertedField" "lengths" "[I" (.ref a2) ∧ Fld Z h a1 "com/example/descriptor/descriptor/engine/index/InvertedField" "totalLength" "J" (.long (0 : Int64)) ∧ Arv Z h a2 ki .int (0 : Int32) [] (.int (0 : Int32))
set_option maxRecDepth 65536 in
set_option maxHeartbeats 40000000 in
theorem rmIn0 (l : Launch) (Z : State) (a0 : Array Value) (hw : ∀ d ∈ tables_1, d.before a0 Z = true) (ws : List Jvm.Cond) (a1 : Addr) (a2 : Addr) (ki : ClassId) (u1 : Value) (u2 : Value) (u3 : Value) (h0 : Heap) (n0 : Nat) (Z0 : n0 ≤ h0.size) (pE_a1 : Exa Z h0 a1 "com/example/descriptor/descriptor/engine/index/InvertedField") (pF_lengths_a1 : Fld Z h0 a1 "com/example/descriptor/descriptor/engine/index/InvertedField" "lengths" "[I" u1) (pF_postings_a1 : Fld Z h0 a1 "com/example/descriptor/descriptor/engine/index/InvertedField" "postings" "Ljava/util/Map;" u2) (pF_totalLength_a1 : Fld Z h0 a1 "com/example/descriptor/descriptor/engine/index/InvertedField" "totalLength" "J" u3) (pG_a1 : n0 ≤ a1) (pV_a2 : Arv Z h0 a2 ki .int (0 : Int32) [] (.int (0 : Int32))) :
    MetFree l (⟨"com/example/descriptor/descriptor/engine/index/InvertedField", "<init>", "([ILjava/util/Map;)V"⟩ : MethodName) (head1 (Jvm.Cond.code (⟨"com/example/descriptor/descriptor/engine/index/InvertedField", "<init>", "([ILjava/util/Map;)V"⟩ : MethodName) prog_17_method_1_code 9 none :: ws) ({ frames := 1, cells := 0, slots := 0, locals := 12 } : Room)) (fun a U => a = #[(.ref a1), (.ref a2), .null] ∧ Z.Warmed39 U.vm ∧ U.heap = h0) (fun _ _ _ _ _ => True) (fun _ U o U' => ∃ v L, o = .returned v ∧ Q_rmIn0 Z a1 a2 ki u1 u2 u3 h0 n0 v U'.heap L ∧ FrameEnd U o U' L ({ frames := 1, cells := 0, slots := 0, locals := 12 } : Room).cells ({ frames := 1, cells := 0, slots := 0, locals := 12 } : Room).slots) := by
  refine MetFree.of_bodySF (plainFor_of_name pn_1) hisR ?_
  intro p e s m args below meth c s₁ Bd hml0 hP hK
  obtain ⟨rfl, hZ, hh⟩ := hP
  have hx := Bd.exec
  have hby := Bd.bytes
  have hml : c.maxLocals = 9 := hml0
  have hown : s.vm.findClass "com/example/descriptor/descriptor/engine/index/InvertedField" = some m.cls := findClass_of_methodNamed Bd.named
  have hnm := (name_of_methodNamed Bd.named Bd.method).1
  have X0 : Stand p l e ({ frames := 1, cells := 0, slots := 0, locals := 12 } : Room) s m #[(.ref a1), (.ref a2), .null] below meth c s₁ [] 0 0 := Stand.of_body Bd
  have e0 : s₁.heap = h0 := by rw [← hh, Bd.state]; rfl
  have N0 := Fr.nil n0
  refine own_enter (ef_rmIn0 m a1 a2) ?_
  refine own_st (fun t_ k_ => XS.aloadN X0.here hx rfl (hb hby d1_0) rfl rfl k_) ?_
  show own_Go p e below s₁ (mkF m 1 #[.val (.ref a1), .val (.ref a2), .val .null, .unset, .unset, .unset, .unset, .unset, .unset] [(.ref a1)]) _
  obtain ⟨T1, X1, e1, st1⟩ := initO X0 hx hZ hown (hw _ (List.mem_of_getElem? (i := 7) rfl)) (hw _ (List.mem_of_getElem? (i := 8) rfl)) (hw _ (List.mem_of_getElem? (i := 9) rfl)) e0 (g := (mkF m 1 #[.val (.ref a1), .val (.ref a2), .val .null, .unset, .unset, .unset, .unset, .unset, .unset] [(.ref a1)])) rfl (by rw [hml]; rfl) rfl (hb hby d1_1) (by decide) (W := 0) (by show 2 * 0 + _ ≤ _; exact Nat.le_of_eq rfl) (by decide)
  refine own_st st1 ?_
  show own_Go p e below T1 (mkF m 4 #[.val (.ref a1), .val (.ref a2), .val .null, .unset, .unset, .unset, .unset, .unset, .unset] []) _
  refine own_st (fun t_ k_ => XS.aloadN X1.here hx rfl (hb hby d1_4) rfl rfl k_) ?_
  show own_Go p e below T1 (mkF m 5 #[.val (.ref a1), .val (.ref a2), .val .null, .unset, .unset, .unset, .unset, .unset, .unset] [(.ref a1)]) _
  refine own_st (fun t_ k_ => XS.aloadN X1.here hx rfl (hb hby d1_5) rfl rfl k_) ?_
  show own_Go p e below T1 (mkF m 6 #[.val (.ref a1), .val (.ref a2), .val .null, .unset, .unset, .unset, .unset, .unset, .unset] [(.ref a2), (.ref a1)]) _
  obtain ⟨T2, h2, X2, e2, W2, st2⟩ := putF X1 hx hZ hown (host := "") (Or.inl (hw _ (List.mem_of_getElem? (i := 10) rfl))) Via.refl e1 pF_lengths_a1 pE_a1 (Or.inr ⟨(hw _ (List.mem_of_getElem? (i := 11) rfl)), rfl, hnm⟩) (hw _ (List.mem_of_getElem? (i := 2) rfl)) (ty := (.array .int)) (by decide) rfl rfl (g := (mkF m 6 #[.val (.ref a1), .val (.ref a2), .val .null, .unset, .unset, .unset, .unset, .unset, .unset] [(.ref a2), (.ref a1)])) rfl rfl (hb hby d1_6)
  have F2 := pF_lengths_a1.same W2
  have K3 : Keep h0 h2 [a1] := (Keep.refl h0 [a1]).wr W2 (Or.inl (List.mem_of_getElem? (i := 0) rfl))
  have N2 := Fr.snoc X2 N0 pG_a1
  refine own_st st2 ?_
  show own_Go p e below T2 (mkF m 9 #[.val (.ref a1), .val (.ref a2), .val .null, .unset, .unset, .unset, .unset, .unset, .unset] []) _
  refine own_st (fun t_ k_ => XS.aloadN X2.here hx rfl (hb hby d1_9) rfl rfl k_) ?_
  show own_Go p e below T2 (mkF m 10 #[.val (.ref a1), .val (.ref a2), .val .null, .unset, .unset, .unset, .unset, .unset, .unset] [(.ref a1)]) _
  refine own_st (fun t_ k_ => XS.aloadN X2.here hx rfl (hb hby d1_10) rfl rfl k_) ?_
  show own_Go p e below T2 (mkF m 11 #[.val (.ref a1), .val (.ref a2), .val .null, .unset, .unset, .unset, .unset, .unset, .unset] [.null, (.ref a1)]) _
  have f4 := (pE_a1.wr W2)
  have f5 := (pF_postings_a1.other W2 (Or.inr (slot_ne (Or.inr (hw _ (List.mem_of_getElem? (i := 13) rfl))) (Or.inr (hw _ (List.mem_of_getElem? (i := 11) rfl))) (by decide) (t := (.object "java/util/Map")) (t' := (.array .int)) (by decide) (by decide))))
  obtain ⟨T6, h6, X6, e6, W6, st6⟩ := putF X2 hx hZ hown (host := "") (Or.inl (hw _ (List.mem_of_getElem? (i := 12) rfl))) Via.refl e2 f5 f4 (Or.inr ⟨(hw _ (List.mem_of_getElem? (i := 13) rfl)), rfl, hnm⟩) (hw _ (List.mem_of_getElem? (i := 2) rfl)) (ty := (.object "java/util/Map")) (by decide) rfl rfl (g := (mkF m 11 #[.val (.ref a1), .val (.ref a2), .val .null, .unset, .unset, .unset, .unset, .unset, .unset] [.null, (.ref a1)])) rfl rfl (hb hby d1_11)
  have F6 := f5.same W6
  have K7 : Keep h0 h6 [a1] := K3.wr W6 (Or.inl (List.mem_of_getElem? (i := 0) rfl))
  have N6 := Fr.snoc X6 N2 pG_a1
  refine own_st st6 ?_
  show own_Go p e below T6 (mkF m 14 #[.val (.ref a1), .val (.ref a2), .val .null, .unset, .unset, .unset, .unset, .unset, .unset] []) _
  refine own_st (fun t_ k_ => XS.lconst X6.here hx rfl (hb hby d1_14) k_) ?_
  show own_Go p e below T6 (mkF m 15 #[.val (.ref a1), .val (.ref a2), .val .null, .unset, .unset, .unset, .unset, .unset, .unset] [(.long (0 : Int64))]) _
  refine own_st (fun t_ k_ => XS.lstoreN X6.here hx rfl (hb hby d1_15) rfl (l' := #[.val (.ref a1), .val (.ref a2), .val .null, .val (.long (0 : Int64)), .second, .unset, .unset, .unset, .unset]) rfl k_) ?_
  show own_Go p e below T6 (mkF m 16 #[.val (.ref a1), .val (.ref a2), .val .null, .val (.long (0 : Int64)), .second, .unset, .unset, .unset, .unset] []) _
  refine own_st (fun t_ k_ => XS.aloadN X6.here hx rfl (hb hby d1_16) rfl rfl k_) ?_
  show own_Go p e below T6 (mkF m 17 #[.val (.ref a1), .val (.ref a2), .val .null, .val (.long (0 : Int64)), .second, .unset, .unset, .unset, .unset] [(.ref a2)]) _
  refine own_st (fun t_ k_ => XS.astore X6.here hx rfl (hb hby d1_17) rfl rfl (l' := #[.val (.ref a1), .val (.ref a2), .val .null, .val (.long (0 : Int64)), .second, .val (.ref a2), .unset, .unset, .unset]) rfl k_) ?_
  show own_Go p e below T6 (mkF m 19 #[.val (.ref a1), .val (.ref a2), .val .null, .val (.long (0 : Int64)), .second, .val (.ref a2), .unset, .unset, .unset] []) _
  refine own_st (fun t_ k_ => XS.aload X6.here hx rfl (hb hby d1_19) rfl rfl k_) ?_
  show own_Go p e below T6 (mkF m 21 #[.val (.ref a1), .val (.ref a2), .val .null, .val (.long (0 : Int64)), .second, .val (.ref a2), .unset, .unset, .unset] [(.ref a2)]) _
  have f8 := ((pV_a2.other W2 (Ne.symm (Exa.neArv pE_a1 pV_a2 (hw _ (List.mem_of_getElem? (i := 2) rfl))))).other W6 (Ne.symm (Exa.neArv pE_a1 pV_a2 (hw _ (List.mem_of_getElem? (i := 2) rfl)))))
  obtain ⟨cl9, Ar9, q9, Sz9, Nn9, Hh9, Gg9⟩ := id f8
  refine own_st (fun t_ k_ => X6.arraylength hx (by rw [e6]; exact Ar9.1) (State.isArrayOf_alike hZ.alike Ar9.2.1) (g := (mkF m 21 #[.val (.ref a1), .val (.ref a2), .val .null, .val (.long (0 : Int64)), .second, .val (.ref a2), .unset, .unset, .unset] [(.ref a2)])) rfl rfl (hb hby d1_21) _ k_) ?_
  rw [len_of Sz9 Nn9]
  show own_Go p e below T6 (mkF m 22 #[.val (.ref a1), .val (.ref a2), .val .null, .val (.long (0 : Int64)), .second, .val (.ref a2), .unset, .unset, .unset] [(.int (0 : Int32))]) _
  refine own_st (fun t_ k_ => XS.istore X6.here hx rfl (hb hby d1_22) rfl (l' := #[.val (.ref a1), .val (.ref a2), .val .null, .val (.long (0 : Int64)), .second, .val (.ref a2), .val (.int (0 : Int32)), .unset, .unset]) rfl k_) ?_
  show own_Go p e below T6 (mkF m 24 #[.val (.ref a1), .val (.ref a2), .val .null, .val (.long (0 : Int64)), .second, .val (.ref a2), .val (.int (0 : Int32)), .unset, .unset] []) _
  refine own_st (fun t_ k_ => XS.iconst X6.here hx rfl (hb hby d1_24) k_) ?_
  show own_Go p e below T6 (mkF m 25 #[.val (.ref a1), .val (.ref a2), .val .null, .val (.long (0 : Int64)), .second, .val (.ref a2), .val (.int (0 : Int32)), .unset, .unset] [(.int (0 : Int32))]) _
  refine own_st (fun t_ k_ => XS.istore X6.here hx rfl (hb hby d1_25) rfl (l' := #[.val (.ref a1), .val (.ref a2), .val .null, .val (.long (0 : Int64)), .second, .val (.ref a2), .val (.int (0 : Int32)), .val (.int (0 : Int32)), .unset]) rfl k_) ?_
  show own_Go p e below T6 (mkF m 27 #[.val (.ref a1), .val (.ref a2), .val .null, .val (.long (0 : Int64)), .second, .val (.ref a2), .val (.int (0 : Int32)), .val (.int (0 : Int32)), .unset] []) _
  refine own_st (fun t_ k_ => XS.iload X6.here hx rfl (hb hby d1_27) rfl k_) ?_
  show own_Go p e below T6 (mkF m 29 #[.val (.ref a1), .val (.ref a2), .val .null, .val (.long (0 : Int64)), .second, .val (.ref a2), .val (.int (0 : Int32)), .val (.int (0 : Int32)), .unset] [(.int (0 : Int32))]) _
  refine own_st (fun t_ k_ => XS.iload X6.here hx rfl (hb hby d1_29) rfl k_) ?_
  show own_Go p e below T6 (mkF m 31 #[.val (.ref a1), .val (.ref a2), .val .null, .val (.long (0 : Int64)), .second, .val (.ref a2), .val (.int (0 : Int32)), .val (.int (0 : Int32)), .unset] [(.int (0 : Int32)), (.int (0 : Int32))]) _
  refine own_st (fun t_ k_ => XS.icmpYes X6.here hx rfl (pc0 := 31) (pc' := 53) rfl (hb hby d1_31) rfl (by decide) (by decide) (by decide) k_) ?_
  show own_Go p e below T6 (mkF m 53 #[.val (.ref a1), .val (.ref a2), .val .null, .val (.long (0 : Int64)), .second, .val (.ref a2), .val (.int (0 : Int32)), .val (.int (0 : Int32)), .unset] []) _
  refine own_st (fun t_ k_ => XS.aloadN X6.here hx rfl (hb hby d1_53) rfl rfl k_) ?_
  show own_Go p e below T6 (mkF m 54 #[.val (.ref a1), .val (.ref a2), .val .null, .val (.long (0 : Int64)), .second, .val (.ref a2), .val (.int (0 : Int32)), .val (.int (0 : Int32)), .unset] [(.ref a1)]) _
  refine own_st (fun t_ k_ => XS.lloadN X6.here hx rfl (hb hby d1_54) rfl k_) ?_
  show own_Go p e below T6 (mkF m 55 #[.val (.ref a1), .val (.ref a2), .val .null, .val (.long (0 : Int64)), .second, .val (.ref a2), .val (.int (0 : Int32)), .val (.int (0 : Int32)), .unset] [(.long (0 : Int64)), (.ref a1)]) _
  have f10 := (f4.wr W6)
  have f11 := ((pF_totalLength_a1.other W2 (Or.inr (slot_ne (Or.inr (hw _ (List.mem_of_getElem? (i := 15) rfl))) (Or.inr (hw _ (List.mem_of_getElem? (i := 11) rfl))) (by decide) (t := .long) (t' := (.array .int)) (by decide) (by decide)))).other W6 (Or.inr (slot_ne (Or.inr (hw _ (List.mem_of_getElem? (i := 15) rfl))) (Or.inr (hw _ (List.mem_of_getElem? (i := 13) rfl))) (by decide) (t := .long) (t' := (.object "java/util/Map")) (by decide) (by decide))))
  obtain ⟨T12, h12, X12, e12, W12, st12⟩ := putF X6 hx hZ hown (host := "") (Or.inl (hw _ (List.mem_of_getElem? (i := 14) rfl))) Via.refl e6 f11 f10 (Or.inr ⟨(hw _ (List.mem_of_getElem? (i := 15) rfl)), rfl, hnm⟩) (hw _ (List.mem_of_getElem? (i := 2) rfl)) (ty := .long) (by decide) rfl rfl (g := (mkF m 55 #[.val (.ref a1), .val (.ref a2), .val .null, .val (.long (0 : Int64)), .second, .val (.ref a2), .val (.int (0 : Int32)), .val (.int (0 : Int32)), .unset] [(.long (0 : Int64)), (.ref a1)])) rfl rfl (hb hby d1_55)
  have F12 := f11.same W12
  have K13 : Keep h0 h12 [a1] := K7.wr W12 (Or.inl (List.mem_of_getElem? (i := 0) rfl))
  have N12 := Fr.snoc X12 N6 pG_a1
  refine own_st st12 ?_
  show own_Go p e below T12 (mkF m 58 #[.val (.ref a1), .val (.ref a2), .val .null, .val (.long (0 : Int64)), .second, .val (.ref a2), .val (.int (0 : Int32)), .val (.int (0 : Int32)), .unset] []) _
  have f14 := (f10.wr W12)
  have f15 := ((F2.other W6 (Or.inr (slot_ne (Or.inr (hw _ (List.mem_of_getElem? (i := 11) rfl))) (Or.inr (hw _ (List.mem_of_getElem? (i := 13) rfl))) (by decide) (t := (.array .int)) (t' := (.object "java/util/Map")) (by decide) (by decide)))).other W12 (Or.inr (slot_ne (Or.inr (hw _ (List.mem_of_getElem? (i := 11) rfl))) (Or.inr (hw _ (List.mem_of_getElem? (i := 15) rfl))) (by decide) (t := (.array .int)) (t' := .long) (by decide) (by decide))))
  have f16 := (f8.other W12 (Ne.symm (Exa.neArv f10 f8 (hw _ (List.mem_of_getElem? (i := 2) rfl)))))
  obtain ⟨fs, hr, hrun, hended, hW, hsame⟩ := X12.leave (v := none) (fun _ => rfl)
  refine own_fin (X12.returnOut hx Bd.returns (hb hby d1_58) hr) ⟨hrun, hended, _, _, rfl, ?_, ⟨_, rfl⟩, hW, hsame.mono (by decide) (by decide)⟩
  show Q_rmIn0 Z a1 a2 ki u1 u2 u3 h0 n0 _ T12.heap _
  rw [e12]
  exact ⟨rfl, N12, K13, f14, f15, F12, f16⟩
theorem d3_0 : decode prog_17_method_5_code 0 = .ok (.aload_n 0, 1) := by decide +kernel
theorem d3_1 : decode prog_17_method_5_code 1 = .ok (.getfield 7, 3) := by decide +kernel
theorem d3_4 : decode prog_17_method_5_code 4 = .ok (.arraylength, 1) := by decide +kernel
theorem d3_5 : decode prog_17_method_5_code 5 = .ok (.ifCond .ne 7, 3) := by decide +kernel
theorem d3_8 : decode prog_17_method_5_code 8 = .ok (.dconst 0, 1) := by decide +kernel
theorem d3_9 : decode prog_17_method_5_code 9 = .ok (.goto 15, 3) := by decide +kernel
theorem d3_24 : decode prog_17_method_5_code 24 = .ok (.dreturn, 1) := by decide +kernel
theorem pn_3 : plainName "com/example/descriptor/descriptor/engine/index/InvertedField" = true := by first | (simp [plainName, overriddenIn]; done) | decide +kernel
theorem ef_rmAv0 (m : MethodId) (x0 : Addr) : entryFrame m #[(.ref x0)] 1 = mkF m 0 #[.val (.ref x0)] [] := by first | (simp [entryFrame, mkF, argsToLocals, Value.category]; done) | rfl
def Q_rmAv0 (Z : State) (a1 : Addr) (a2 : Addr) (ki : ClassId) (sm : Int64) (h0 : Heap) (n0 : Nat) (v : Option Value) (h : Heap) (L : List Loc) : Prop := v = some (.double FP.dconst0) ∧ Fr n0 L ∧ h = h0
set_option maxRecDepth 65536 in
set_option maxHeartbeats 40000000 in
theorem rmAv0 (l : Launch) (Z : State) (a0 : Array Value) (hw : ∀ d ∈ tables_1, d.before a0 Z = true) (ws : List Jvm.Cond) (a1 : Addr) (a2 : Addr) (ki : ClassId) (sm : Int64) (h0 : Heap) (n0 : Nat) (Z0 : n0 ≤ h0.size) (pF_lengths_a1 : Fld Z h0 a1 "com/example/descriptor/descriptor/engine/index/InvertedField" "lengths" "[I" (.ref a2)) (pF_totalLength_a1 : Fld Z h0 a1 "com/example/descriptor/descriptor/engine/index/InvertedField" "totalLength" "J" (.long sm)) (pV_a2 : Arv Z h0 a2 ki .int (0 : Int32) [] (.int (0 : Int32))) :
    MetFree l (⟨"com/example/descriptor/descriptor/engine/index/InvertedField", "averageLength", "()D"⟩ : MethodName) (head1 (Jvm.Cond.code (⟨"com/example/descriptor/descriptor/engine/index/InvertedField", "averageLength", "()D"⟩ : MethodName) prog_17_method_5_code 1 (some .double) :: ws) ({ frames := 0, cells := 0, slots := 0, locals := 0 } : Room)) (fun a U => a = #[(.ref a1)] ∧ Z.Warmed39 U.vm ∧ U.heap = h0) (fun _ _ _ _ _ => True) (fun _ U o U' => ∃ v L, o = .returned v ∧ Q_rmAv0 Z a1 a2 ki sm h0 n0 v U'.heap L ∧ FrameEnd U o U' L ({ frames := 0, cells := 0, slots := 0, locals := 0 } : Room).cells ({ frames := 0, cells := 0, slots := 0, locals := 0 } : Room).slots) := by
  refine MetFree.of_bodySF (plainFor_of_name pn_3) hisR ?_
  intro p e s m args below meth c s₁ Bd hml0 hP hK
  obtain ⟨rfl, hZ, hh⟩ := hP
  have hx := Bd.exec
  have hby := Bd.bytes
  have hml : c.maxLocals = 1 := hml0
  have hown : s.vm.findClass "com/example/descriptor/descriptor/engine/index/InvertedField" = some m.cls := findClass_of_methodNamed Bd.named
  have hnm := (name_of_methodNamed Bd.named Bd.method).1
  have X0 : Stand p l e ({ frames := 0, cells := 0, slots := 0, locals := 0 } : Room) s m #[(.ref a1)] below meth c s₁ [] 0 0 := Stand.of_body Bd
  have e0 : s₁.heap = h0 := by rw [← hh, Bd.state]; rfl
  have N0 := Fr.nil n0
  refine own_enter (ef_rmAv0 m a1) ?_
  refine own_st (fun t_ k_ => XS.aloadN X0.here hx rfl (hb hby d3_0) rfl rfl k_) ?_
  show own_Go p e below s₁ (mkF m 1 #[.val (.ref a1)] [(.ref a1)]) _
  obtain ⟨T1, X1, e1, st1⟩ := getF X0 hx hZ hown (host := "") (Or.inl (hw _ (List.mem_of_getElem? (i := 10) rfl))) Via.refl e0 pF_lengths_a1 (g := (mkF m 1 #[.val (.ref a1)] [(.ref a1)])) rfl rfl (hb hby d3_1)
  refine own_st st1 ?_
  show own_Go p e below T1 (mkF m 4 #[.val (.ref a1)] [(.ref a2)]) _
  obtain ⟨cl2, Ar2, q2, Sz2, Nn2, Hh2, Gg2⟩ := id pV_a2
  refine own_st (fun t_ k_ => X1.arraylength hx (by rw [e1]; exact Ar2.1) (State.isArrayOf_alike hZ.alike Ar2.2.1) (g := (mkF m 4 #[.val (.ref a1)] [(.ref a2)])) rfl rfl (hb hby d3_4) _ k_) ?_
  rw [len_of Sz2 Nn2]
  show own_Go p e below T1 (mkF m 5 #[.val (.ref a1)] [(.int (0 : Int32))]) _
  refine own_st (fun t_ k_ => XS.ifNo X1.here hx rfl (hb hby d3_5) rfl (by decide) k_) ?_
  show own_Go p e below T1 (mkF m 8 #[.val (.ref a1)] []) _
  refine own_st (fun t_ k_ => XS.dconst0 X1.here hx rfl (hb hby d3_8) rfl k_) ?_
  show own_Go p e below T1 (mkF m 9 #[.val (.ref a1)] [(.double FP.dconst0)]) _
  refine own_st (fun t_ k_ => XS.goto X1.here hx rfl (pc0 := 9) (pc' := 24) rfl (hb hby d3_9) (by decide) (by decide) k_) ?_
  show own_Go p e below T1 (mkF m 24 #[.val (.ref a1)] [(.double FP.dconst0)]) _
  obtain ⟨fs, hr, hrun, hended, hW, hsame⟩ := X1.leave (v := some (.double FP.dconst0)) (fun h => by rw [Bd.returns] at h; cases h)
  refine own_fin (own_retD X1 hx Bd.returns (hb hby d3_24) hr) ⟨hrun, hended, _, _, rfl, ?_, ⟨_, rfl⟩, hW, hsame.mono (by decide) (by decide)⟩
  show Q_rmAv0 Z a1 a2 ki sm h0 n0 _ T1.heap _
  rw [e1]
  exact ⟨rfl, N0, rfl⟩
theorem d1_34 : decode prog_17_method_1_code 34 = .ok (.aload 5, 2) := by decide +kernel
theorem d1_36 : decode prog_17_method_1_code 36 = .ok (.iload 7, 2) := by decide +kernel
theorem d1_38 : decode prog_17_method_1_code 38 = .ok (.iaload, 1) := by decide +kernel
theorem d1_39 : decode prog_17_method_1_code 39 = .ok (.istore 8, 2) := by decide +kernel
theorem d1_41 : decode prog_17_method_1_code 41 = .ok (.lload_n 3, 1) := by decide +kernel
theorem d1_42 : decode prog_17_method_1_code 42 = .ok (.iload 8, 2) := by decide +kernel
theorem d1_44 : decode prog_17_method_1_code 44 = .ok (.i2l, 1) := by decide +kernel
theorem d1_45 : decode prog_17_method_1_code 45 = .ok (.ladd, 1) := by decide +kernel
theorem d1_46 : decode prog_17_method_1_code 46 = .ok (.lstore_n 3, 1) := by decide +kernel
theorem d1_47 : decode prog_17_method_1_code 47 = .ok (.iinc 7 1, 3) := by decide +kernel
theorem d1_50 : decode prog_17_method_1_code 50 = .ok (.goto (-23), 3) := by decide +kernel
theorem ef_rmIn1 (m : MethodId) (x0 : Addr) (x1 : Addr) : entryFrame m #[(.ref x0), (.ref x1), .null] 9 = mkF m 0 #[.val (.ref x0), .val (.ref x1), .val .null, .unset, .unset, .unset, .unset, .unset, .unset] [] := by first | (simp [entryFrame, mkF, argsToLocals, Value.category]; done) | rfl
def Q_rmIn1 (Z : State) (a1 : Addr) (a2 : Addr) (ki : ClassId) (x0 : Int32) (u1 : Value) (u2 : Value) (u3 : Value) (h0 : Heap) (n0 : Nat) (v : Option Value) (h : Heap) (L : List Loc) : Prop := v = none ∧ Fr n0 L ∧ Keep h0 h [a1] ∧ Exa Z h a1 "com/example/descriptor/descriptor/engine/index/InvertedField" ∧ Fld Z h a1 "com/example/descriptor/descriptor/engine/index/InvertedField" "lengths" "[I" (.ref a2) ∧ Fld Z h a1 "com/example/descriptor/descriptor/engine/index/InvertedField" "totalLength" "J" (.long ((0 : Int64) + (x0.toInt64))) ∧ Arv Z h a2 ki .int (1 : Int32) [(.int x0)] (.int (0 : Int32))
set_option maxRecDepth 65536 in
set_option maxHeartbeats 40000000 in
theorem rmIn1 (l : Launch) (Z : State) (a0 : Array Value) (hw : ∀ d ∈ tables_1, d.before a0 Z = true) (ws : List Jvm.Cond) (a1 : Addr) (a2 : Addr) (ki : ClassId) (x0 : Int32) (u1 : Value) (u2 : Value) (u3 : Value) (h0 : Heap) (n0 : Nat) (Z0 : n0 ≤ h0.size) (pE_a1 : Exa Z h0 a1 "com/example/descriptor/descriptor/engine/index/InvertedField") (pF_lengths_a1 : Fld Z h0 a1 "com/example/descriptor/descriptor/engine/index/InvertedField" "lengths" "[I" u1) (pF_postings_a1 : Fld Z h0 a1 "com/example/descriptor/descriptor/engine/index/InvertedField" "postings" "Ljava/util/Map;" u2) (pF_totalLength_a1 : Fld Z h0 a1 "com/example/descriptor/descriptor/engine/index/InvertedField" "totalLength" "J" u3) (pG_a1 : n0 ≤ a1) (pV_a2 : Arv Z h0 a2 ki .int (1 : Int32) [(.int x0)] (.int (0 : Int32))) :
    MetFree l (⟨"com/example/descriptor/descriptor/engine/index/InvertedField", "<init>", "([ILjava/util/Map;)V"⟩ : MethodName) (head1 (Jvm.Cond.code (⟨"com/example/descriptor/descriptor/engine/index/InvertedField", "<init>", "([ILjava/util/Map;)V"⟩ : MethodName) prog_17_method_1_code 9 none :: ws) ({ frames := 1, cells := 0, slots := 0, locals := 12 } : Room)) (fun a U => a = #[(.ref a1), (.ref a2), .null] ∧ Z.Warmed39 U.vm ∧ U.heap = h0) (fun _ _ _ _ _ => True) (fun _ U o U' => ∃ v L, o = .returned v ∧ Q_rmIn1 Z a1 a2 ki x0 u1 u2 u3 h0 n0 v U'.heap L ∧ FrameEnd U o U' L ({ frames := 1, cells := 0, slots := 0, locals := 12 } : Room).cells ({ frames := 1, cells := 0, slots := 0, locals := 12 } : Room).slots) := by
  refine MetFree.of_bodySF (plainFor_of_name pn_1) hisR ?_
  intro p e s m args below meth c s₁ Bd hml0 hP hK
  obtain ⟨rfl, hZ, hh⟩ := hP
  have hx := Bd.exec
  have hby := Bd.bytes
  have hml : c.maxLocals = 9 := hml0
  have hown : s.vm.findClass "com/example/descriptor/descriptor/engine/index/InvertedField" = some m.cls := findClass_of_methodNamed Bd.named
  have hnm := (name_of_methodNamed Bd.named Bd.method).1
  have X0 : Stand p l e ({ frames := 1, cells := 0, slots := 0, locals := 12 } : Room) s m #[(.ref a1), (.ref a2), .null] below meth c s₁ [] 0 0 := Stand.of_body Bd
  have e0 : s₁.heap = h0 := by rw [← hh, Bd.state]; rfl
  have N0 := Fr.nil n0
  refine own_enter (ef_rmIn1 m a1 a2) ?_
  refine own_st (fun t_ k_ => XS.aloadN X0.here hx rfl (hb hby d1_0) rfl rfl k_) ?_
  show own_Go p e below s₁ (mkF m 1 #[.val (.ref a1), .val (.ref a2), .val .null, .unset, .unset, .unset, .unset, .unset, .unset] [(.ref a1)]) _
  obtain ⟨T1, X1, e1, st1⟩ := initO X0 hx hZ hown (hw _ (List.mem_of_getElem? (i := 7) rfl)) (hw _ (List.mem_of_getElem? (i := 8) rfl)) (hw _ (List.mem_of_getElem? (i := 9) rfl)) e0 (g := (mkF m 1 #[.val (.ref a1), .val (.ref a2), .val .null, .unset, .unset, .unset, .unset, .unset, .unset] [(.ref a1)])) rfl (by rw [hml]; rfl) rfl (hb hby d1_1) (by decide) (W := 0) (by show 2 * 0 + _ ≤ _; exact Nat.le_of_eq rfl) (by decide)
  refine own_st st1 ?_
  show own_Go p e below T1 (mkF m 4 #[.val (.ref a1), .val (.ref a2), .val .null, .unset, .unset, .unset, .unset, .unset, .unset] []) _
  refine own_st (fun t_ k_ => XS.aloadN X1.here hx rfl (hb hby d1_4) rfl rfl k_) ?_
  show own_Go p e below T1 (mkF m 5 #[.val (.ref a1), .val (.ref a2), .val .null, .unset, .unset, .unset, .unset, .unset, .unset] [(.ref a1)]) _
  refine own_st (fun t_ k_ => XS.aloadN X1.here hx rfl (hb hby d1_5) rfl rfl k_) ?_
  show own_Go p e below T1 (mkF m 6 #[.val (.ref a1), .val (.ref a2), .val .null, .unset, .unset, .unset, .unset, .unset, .unset] [(.ref a2), (.ref a1)]) _
  obtain ⟨T2, h2, X2, e2, W2, st2⟩ := putF X1 hx hZ hown (host := "") (Or.inl (hw _ (List.mem_of_getElem? (i := 10) rfl))) Via.refl e1 pF_lengths_a1 pE_a1 (Or.inr ⟨(hw _ (List.mem_of_getElem? (i := 11) rfl)), rfl, hnm⟩) (hw _ (List.mem_of_getElem? (i := 2) rfl)) (ty := (.array .int)) (by decide) rfl rfl (g := (mkF m 6 #[.val (.ref a1), .val (.ref a2), .val .null, .unset, .unset, .unset, .unset, .unset, .unset] [(.ref a2), (.ref a1)])) rfl rfl (hb hby d1_6)
  have F2 := pF_lengths_a1.same W2
  have K3 : Keep h0 h2 [a1] := (Keep.refl h0 [a1]).wr W2 (Or.inl (List.mem_of_getElem? (i := 0) rfl))
  have N2 := Fr.snoc X2 N0 pG_a1
  refine own_st st2 ?_
  show own_Go p e below T2 (mkF m 9 #[.val (.ref a1), .val (.ref a2), .val .null, .unset, .unset, .unset, .unset, .unset, .unset] []) _
  refine own_st (fun t_ k_ => XS.aloadN X2.here hx rfl (hb hby d1_9) rfl rfl k_) ?_
  show own_Go p e below T2 (mkF m 10 #[.val (.ref a1), .val (.ref a2), .val .null, .unset, .unset, .unset, .unset, .unset, .unset] [(.ref a1)]) _
  refine own_st (fun t_ k_ => XS.aloadN X2.here hx rfl (hb hby d1_10) rfl rfl k_) ?_
  show own_Go p e below T2 (mkF m 11 #[.val (.ref a1), .val (.ref a2), .val .null, .unset, .unset, .unset, .unset, .unset, .unset] [.null, (.ref a1)]) _
  have f4 := (pE_a1.wr W2)
  have f5 := (pF_postings_a1.other W2 (Or.inr (slot_ne (Or.inr (hw _ (List.mem_of_getElem? (i := 13) rfl))) (Or.inr (hw _ (List.mem_of_getElem? (i := 11) rfl))) (by decide) (t := (.object "java/util/Map")) (t' := (.array .int)) (by decide) (by decide))))
  obtain ⟨T6, h6, X6, e6, W6, st6⟩ := putF X2 hx hZ hown (host := "") (Or.inl (hw _ (List.mem_of_getElem? (i := 12) rfl))) Via.refl e2 f5 f4 (Or.inr ⟨(hw _ (List.mem_of_getElem? (i := 13) rfl)), rfl, hnm⟩) (hw _ (List.mem_of_getElem? (i := 2) rfl)) (ty := (.object "java/util/Map")) (by decide) rfl rfl (g := (mkF m 11 #[.val (.ref a1), .val (.ref a2), .val .null, .unset, .unset, .unset, .unset, .unset, .unset] [.null, (.ref a1)])) rfl rfl (hb hby d1_11)
  have F6 := f5.same W6
  have K7 : Keep h0 h6 [a1] := K3.wr W6 (Or.inl (List.mem_of_getElem? (i := 0) rfl))
  have N6 := Fr.snoc X6 N2 pG_a1
  refine own_st st6 ?_
  show own_Go p e below T6 (mkF m 14 #[.val (.ref a1), .val (.ref a2), .val .null, .unset, .unset, .unset, .unset, .unset, .unset] []) _
  refine own_st (fun t_ k_ => XS.lconst X6.here hx rfl (hb hby d1_14) k_) ?_
  show own_Go p e below T6 (mkF m 15 #[.val (.ref a1), .val (.ref a2), .val .null, .unset, .unset, .unset, .unset, .unset, .unset] [(.long (0 : Int64))]) _
  refine own_st (fun t_ k_ => XS.lstoreN X6.here hx rfl (hb hby d1_15) rfl (l' := #[.val (.ref a1), .val (.ref a2), .val .null, .val (.long (0 : Int64)), .second, .unset, .unset, .unset, .unset]) rfl k_) ?_
  show own_Go p e below T6 (mkF m 16 #[.val (.ref a1), .val (.ref a2), .val .null, .val (.long (0 : Int64)), .second, .unset, .unset, .unset, .unset] []) _
  refine own_st (fun t_ k_ => XS.aloadN X6.here hx rfl (hb hby d1_16) rfl rfl k_) ?_
  show own_Go p e below T6 (mkF m 17 #[.val (.ref a1), .val (.ref a2), .val .null, .val (.long (0 : Int64)), .second, .unset, .unset, .unset, .unset] [(.ref a2)]) _
  refine own_st (fun t_ k_ => XS.astore X6.here hx rfl (hb hby d1_17) rfl rfl (l' := #[.val (.ref a1), .val (.ref a2), .val .null, .val (.long (0 : Int64)), .second, .val (.ref a2), .unset, .unset, .unset]) rfl k_) ?_
  show own_Go p e below T6 (mkF m 19 #[.val (.ref a1), .val (.ref a2), .val .null, .val (.long (0 : Int64)), .second, .val (.ref a2), .unset, .unset, .unset] []) _
  refine own_st (fun t_ k_ => XS.aload X6.here hx rfl (hb hby d1_19) rfl rfl k_) ?_
  show own_Go p e below T6 (mkF m 21 #[.val (.ref a1), .val (.ref a2), .val .null, .val (.long (0 : Int64)), .second, .val (.ref a2), .unset, .unset, .unset] [(.ref a2)]) _
  have f8 := ((pV_a2.other W2 (Ne.symm (Exa.neArv pE_a1 pV_a2 (hw _ (List.mem_of_getElem? (i := 2) rfl))))).other W6 (Ne.symm (Exa.neArv pE_a1 pV_a2 (hw _ (List.mem_of_getElem? (i := 2) rfl)))))
  obtain ⟨cl9, Ar9, q9, Sz9, Nn9, Hh9, Gg9⟩ := id f8
  refine own_st (fun t_ k_ => X6.arraylength hx (by rw [e6]; exact Ar9.1) (State.isArrayOf_alike hZ.alike Ar9.2.1) (g := (mkF m 21 #[.val (.ref a1), .val (.ref a2), .val .null, .val (.long (0 : Int64)), .second, .val (.ref a2), .unset, .unset, .unset] [(.ref a2)])) rfl rfl (hb hby d1_21) _ k_) ?_
  rw [len_of Sz9 Nn9]
  show own_Go p e below T6 (mkF m 22 #[.val (.ref a1), .val (.ref a2), .val .null, .val (.long (0 : Int64)), .second, .val (.ref a2), .unset, .unset, .unset] [(.int (1 : Int32))]) _
  refine own_st (fun t_ k_ => XS.istore X6.here hx rfl (hb hby d1_22) rfl (l' := #[.val (.ref a1), .val (.ref a2), .val .null, .val (.long (0 : Int64)), .second, .val (.ref a2), .val (.int (1 : Int32)), .unset, .unset]) rfl k_) ?_
  show own_Go p e below T6 (mkF m 24 #[.val (.ref a1), .val (.ref a2), .val .null, .val (.long (0 : Int64)), .second, .val (.ref a2), .val (.int (1 : Int32)), .unset, .unset] []) _
  refine own_st (fun t_ k_ => XS.iconst X6.here hx rfl (hb hby d1_24) k_) ?_
  show own_Go p e below T6 (mkF m 25 #[.val (.ref a1), .val (.ref a2), .val .null, .val (.long (0 : Int64)), .second, .val (.ref a2), .val (.int (1 : Int32)), .unset, .unset] [(.int (0 : Int32))]) _
  refine own_st (fun t_ k_ => XS.istore X6.here hx rfl (hb hby d1_25) rfl (l' := #[.val (.ref a1), .val (.ref a2), .val .null, .val (.long (0 : Int64)), .second, .val (.ref a2), .val (.int (1 : Int32)), .val (.int (0 : Int32)), .unset]) rfl k_) ?_
  show own_Go p e below T6 (mkF m 27 #[.val (.ref a1), .val (.ref a2), .val .null, .val (.long (0 : Int64)), .second, .val (.ref a2), .val (.int (1 : Int32)), .val (.int (0 : Int32)), .unset] []) _
  refine own_st (fun t_ k_ => XS.iload X6.here hx rfl (hb hby d1_27) rfl k_) ?_
  show own_Go p e below T6 (mkF m 29 #[.val (.ref a1), .val (.ref a2), .val .null, .val (.long (0 : Int64)), .second, .val (.ref a2), .val (.int (1 : Int32)), .val (.int (0 : Int32)), .unset] [(.int (0 : Int32))]) _
  refine own_st (fun t_ k_ => XS.iload X6.here hx rfl (hb hby d1_29) rfl k_) ?_
  show own_Go p e below T6 (mkF m 31 #[.val (.ref a1), .val (.ref a2), .val .null, .val (.long (0 : Int64)), .second, .val (.ref a2), .val (.int (1 : Int32)), .val (.int (0 : Int32)), .unset] [(.int (1 : Int32)), (.int (0 : Int32))]) _
  refine own_st (fun t_ k_ => XS.icmpNo X6.here hx rfl (hb hby d1_31) rfl (by decide) k_) ?_
  show own_Go p e below T6 (mkF m 34 #[.val (.ref a1), .val (.ref a2), .val .null, .val (.long (0 : Int64)), .second, .val (.ref a2), .val (.int (1 : Int32)), .val (.int (0 : Int32)), .unset] []) _
  refine own_st (fun t_ k_ => XS.aload X6.here hx rfl (hb hby d1_34) rfl rfl k_) ?_
  show own_Go p e below T6 (mkF m 36 #[.val (.ref a1), .val (.ref a2), .val .null, .val (.long (0 : Int64)), .second, .val (.ref a2), .val (.int (1 : Int32)), .val (.int (0 : Int32)), .unset] [(.ref a2)]) _
  refine own_st (fun t_ k_ => XS.iload X6.here hx rfl (hb hby d1_36) rfl k_) ?_
  show own_Go p e below T6 (mkF m 38 #[.val (.ref a1), .val (.ref a2), .val .null, .val (.long (0 : Int64)), .second, .val (.ref a2), .val (.int (1 : Int32)), .val (.int (0 : Int32)), .unset] [(.int (0 : Int32)), (.ref a2)]) _
  obtain ⟨cl10, Ar10, q10, Sz10, Nn10, Hh10, Gg10⟩ := id f8
  have hin10 : ¬ ((0 : Int32) < 0 ∨ cl10.slots.size ≤ ((0 : Int32)).toNatClampNeg) := inb_of Sz10 ⟨by decide, by decide⟩
  have hat10 : cl10.slots[((0 : Int32)).toNatClampNeg]? = some (.int x0) := Has.at Hh10 hin10 rfl
  refine own_st (fun t_ k_ => X6.iaload hx (j := (0 : Int32)) (v := (.int x0)) (by rw [e6]; exact Ar10.1) (State.isArrayOf_alike hZ.alike Ar10.2.1) Ar10.2.2 hin10 hat10 (g := (mkF m 38 #[.val (.ref a1), .val (.ref a2), .val .null, .val (.long (0 : Int64)), .second, .val (.ref a2), .val (.int (1 : Int32)), .val (.int (0 : Int32)), .unset] [(.int (0 : Int32)), (.ref a2)])) rfl rfl (hb hby d1_38) _ k_) ?_
  show own_Go p e below T6 (mkF m 39 #[.val (.ref a1), .val (.ref a2), .val .null, .val (.long (0 : Int64)), .second, .val (.ref a2), .val (.int (1 : Int32)), .val (.int (0 : Int32)), .unset] [(.int x0)]) _
  refine own_st (fun t_ k_ => XS.istore X6.here hx rfl (hb hby d1_39) rfl (l' := #[.val (.ref a1), .val (.ref a2), .val .null, .val (.long (0 : Int64)), .second, .val (.ref a2), .val (.int (1 : Int32)), .val (.int (0 : Int32)), .val (.int x0)]) rfl k_) ?_
  show own_Go p e below T6 (mkF m 41 #[.val (.ref a1), .val (.ref a2), .val .null, .val (.long (0 : Int64)), .second, .val (.ref a2), .val (.int (1 : Int32)), .val (.int (0 : Int32)), .val (.int x0)] []) _
  refine own_st (fun t_ k_ => XS.lloadN X6.here hx rfl (hb hby d1_41) rfl k_) ?_
  show own_Go p e below T6 (mkF m 42 #[.val (.ref a1), .val (.ref a2), .val .null, .val (.long (0 : Int64)), .second, .val (.ref a2), .val (.int (1 : Int32)), .val (.int (0 : Int32)), .val (.int x0)] [(.long (0 : Int64))]) _
  refine own_st (fun t_ k_ => XS.iload X6.here hx rfl (hb hby d1_42) rfl k_) ?_
  show own_Go p e below T6 (mkF m 44 #[.val (.ref a1), .val (.ref a2), .val .null, .val (.long (0 : Int64)), .second, .val (.ref a2), .val (.int (1 : Int32)), .val (.int (0 : Int32)), .val (.int x0)] [(.int x0), (.long (0 : Int64))]) _
  refine own_st (fun t_ k_ => XS.i2l X6.here hx rfl (hb hby d1_44) rfl k_) ?_
  show own_Go p e below T6 (mkF m 45 #[.val (.ref a1), .val (.ref a2), .val .null, .val (.long (0 : Int64)), .second, .val (.ref a2), .val (.int (1 : Int32)), .val (.int (0 : Int32)), .val (.int x0)] [(.long (x0.toInt64)), (.long (0 : Int64))]) _
  refine own_st (fun t_ k_ => XS.ladd X6.here hx rfl (hb hby d1_45) rfl k_) ?_
  show own_Go p e below T6 (mkF m 46 #[.val (.ref a1), .val (.ref a2), .val .null, .val (.long (0 : Int64)), .second, .val (.ref a2), .val (.int (1 : Int32)), .val (.int (0 : Int32)), .val (.int x0)] [(.long ((0 : Int64) + (x0.toInt64)))]) _
  refine own_st (fun t_ k_ => XS.lstoreN X6.here hx rfl (hb hby d1_46) rfl (l' := #[.val (.ref a1), .val (.ref a2), .val .null, .val (.long ((0 : Int64) + (x0.toInt64))), .second, .val (.ref a2), .val (.int (1 : Int32)), .val (.int (0 : Int32)), .val (.int x0)]) rfl k_) ?_
  show own_Go p e below T6 (mkF m 47 #[.val (.ref a1), .val (.ref a2), .val .null, .val (.long ((0 : Int64) + (x0.toInt64))), .second, .val (.ref a2), .val (.int (1 : Int32)), .val (.int (0 : Int32)), .val (.int x0)] []) _
  refine own_st (fun t_ k_ => XS.iinc X6.here hx rfl (hb hby d1_47) rfl (l' := #[.val (.ref a1), .val (.ref a2), .val .null, .val (.long ((0 : Int64) + (x0.toInt64))), .second, .val (.ref a2), .val (.int (1 : Int32)), .val (.int (1 : Int32)), .val (.int x0)]) rfl k_) ?_
  show own_Go p e below T6 (mkF m 50 #[.val (.ref a1), .val (.ref a2), .val .null, .val (.long ((0 : Int64) + (x0.toInt64))), .second, .val (.ref a2), .val (.int (1 : Int32)), .val (.int (1 : Int32)), .val (.int x0)] []) _
  refine own_st (fun t_ k_ => XS.goto X6.here hx rfl (pc0 := 50) (pc' := 27) rfl (hb hby d1_50) (by decide) (by decide) k_) ?_
  show own_Go p e below T6 (mkF m 27 #[.val (.ref a1), .val (.ref a2), .val .null, .val (.long ((0 : Int64) + (x0.toInt64))), .second, .val (.ref a2), .val (.int (1 : Int32)), .val (.int (1 : Int32)), .val (.int x0)] []) _
  refine own_st (fun t_ k_ => XS.iload X6.here hx rfl (hb hby d1_27) rfl k_) ?_
  show own_Go p e below T6 (mkF m 29 #[.val (.ref a1), .val (.ref a2), .val .null, .val (.long ((0 : Int64) + (x0.toInt64))), .second, .val (.ref a2), .val (.int (1 : Int32)), .val (.int (1 : Int32)), .val (.int x0)] [(.int (1 : Int32))]) _
  refine own_st (fun t_ k_ => XS.iload X6.here hx rfl (hb hby d1_29) rfl k_) ?_
  show own_Go p e below T6 (mkF m 31 #[.val (.ref a1), .val (.ref a2), .val .null, .val (.long ((0 : Int64) + (x0.toInt64))), .second, .val (.ref a2), .val (.int (1 : Int32)), .val (.int (1 : Int32)), .val (.int x0)] [(.int (1 : Int32)), (.int (1 : Int32))]) _
  refine own_st (fun t_ k_ => XS.icmpYes X6.here hx rfl (pc0 := 31) (pc' := 53) rfl (hb hby d1_31) rfl (by decide) (by decide) (by decide) k_) ?_
  show own_Go p e below T6 (mkF m 53 #[.val (.ref a1), .val (.ref a2), .val .null, .val (.long ((0 : Int64) + (x0.toInt64))), .second, .val (.ref a2), .val (.int (1 : Int32)), .val (.int (1 : Int32)), .val (.int x0)] []) _
  refine own_st (fun t_ k_ => XS.aloadN X6.here hx rfl (hb hby d1_53) rfl rfl k_) ?_
  show own_Go p e below T6 (mkF m 54 #[.val (.ref a1), .val (.ref a2), .val .null, .val (.long ((0 : Int64) + (x0.toInt64))), .second, .val (.ref a2), .val (.int (1 : Int32)), .val (.int (1 : Int32)), .val (.int x0)] [(.ref a1)]) _
  refine own_st (fun t_ k_ => XS.lloadN X6.here hx rfl (hb hby d1_54) rfl k_) ?_
  show own_Go p e below T6 (mkF m 55 #[.val (.ref a1), .val (.ref a2), .val .null, .val (.long ((0 : Int64) + (x0.toInt64))), .second, .val (.ref a2), .val (.int (1 : Int32)), .val (.int (1 : Int32)), .val (.int x0)] [(.long ((0 : Int64) + (x0.toInt64))), (.ref a1)]) _
  have f11 := (f4.wr W6)
  have f12 := ((pF_totalLength_a1.other W2 (Or.inr (slot_ne (Or.inr (hw _ (List.mem_of_getElem? (i := 15) rfl))) (Or.inr (hw _ (List.mem_of_getElem? (i := 11) rfl))) (by decide) (t := .long) (t' := (.array .int)) (by decide) (by decide)))).other W6 (Or.inr (slot_ne (Or.inr (hw _ (List.mem_of_getElem? (i := 15) rfl))) (Or.inr (hw _ (List.mem_of_getElem? (i := 13) rfl))) (by decide) (t := .long) (t' := (.object "java/util/Map")) (by decide) (by decide))))
  obtain ⟨T13, h13, X13, e13, W13, st13⟩ := putF X6 hx hZ hown (host := "") (Or.inl (hw _ (List.mem_of_getElem? (i := 14) rfl))) Via.refl e6 f12 f11 (Or.inr ⟨(hw _ (List.mem_of_getElem? (i := 15) rfl)), rfl, hnm⟩) (hw _ (List.mem_of_getElem? (i := 2) rfl)) (ty := .long) (by decide) rfl rfl (g := (mkF m 55 #[.val (.ref a1), .val (.ref a2), .val .null, .val (.long ((0 : Int64) + (x0.toInt64))), .second, .val (.ref a2), .val (.int (1 : Int32)), .val (.int (1 : Int32)), .val (.int x0)] [(.long ((0 : Int64) + (x0.toInt64))), (.ref a1)])) rfl rfl (hb hby d1_55)
  have F13 := f12.same W13
  have K14 : Keep h0 h13 [a1] := K7.wr W13 (Or.inl (List.mem_of_getElem? (i := 0) rfl))
  have N13 := Fr.snoc X13 N6 pG_a1
  refine own_st st13 ?_
  show own_Go p e below T13 (mkF m 58 #[.val (.ref a1), .val (.ref a2), .val .null, .val (.long ((0 : Int64) + (x0.toInt64))), .second, .val (.ref a2), .val (.int (1 : Int32)), .val (.int (1 : Int32)), .val (.int x0)] []) _
  have f15 := (f11.wr W13)
  have f16 := ((F2.other W6 (Or.inr (slot_ne (Or.inr (hw _ (List.mem_of_getElem? (i := 11) rfl))) (Or.inr (hw _ (List.mem_of_getElem? (i := 13) rfl))) (by decide) (t := (.array .int)) (t' := (.object "java/util/Map")) (by decide) (by decide)))).other W13 (Or.inr (slot_ne (Or.inr (hw _ (List.mem_of_getElem? (i := 11) rfl))) (Or.inr (hw _ (List.mem_of_getElem? (i := 15) rfl))) (by decide) (t := (.array .int)) (t' := .long) (by decide) (by decide))))
  have f17 := (f8.other W13 (Ne.symm (Exa.neArv f11 f8 (hw _ (List.mem_of_getElem? (i := 2) rfl)))))
  obtain ⟨fs, hr, hrun, hended, hW, hsame⟩ := X13.leave (v := none) (fun _ => rfl)
  refine own_fin (X13.returnOut hx Bd.returns (hb hby d1_58) hr) ⟨hrun, hended, _, _, rfl, ?_, ⟨_, rfl⟩, hW, hsame.mono (by decide) (by decide)⟩
  show Q_rmIn1 Z a1 a2 ki x0 u1 u2 u3 h0 n0 _ T13.heap _
  rw [e13]
  exact ⟨rfl, N13, K14, f15, f16, F13, f17⟩
theorem d3_12 : decode prog_17_method_5_code 12 = .ok (.aload_n 0, 1) := by decide +kernel
theorem d3_13 : decode prog_17_method_5_code 13 = .ok (.getfield 17, 3) := by decide +kernel
theorem d3_16 : decode prog_17_method_5_code 16 = .ok (.l2d, 1) := by decide +kernel
theorem d3_17 : decode prog_17_method_5_code 17 = .ok (.aload_n 0, 1) := by decide +kernel
theorem d3_18 : decode prog_17_method_5_code 18 = .ok (.getfield 7, 3) := by decide +kernel
theorem d3_21 : decode prog_17_method_5_code 21 = .ok (.arraylength, 1) := by decide +kernel
theorem d3_22 : decode prog_17_method_5_code 22 = .ok (.i2d, 1) := by decide +kernel
theorem d3_23 : decode prog_17_method_5_code 23 = .ok (.ddiv, 1) := by decide +kernel
theorem ef_rmAv1 (m : MethodId) (x0 : Addr) : entryFrame m #[(.ref x0)] 1 = mkF m 0 #[.val (.ref x0)] [] := by first | (simp [entryFrame, mkF, argsToLocals, Value.category]; done) | rfl
def Q_rmAv1 (Z : State) (a1 : Addr) (a2 : Addr) (ki : ClassId) (x0 : Int32) (sm : Int64) (h0 : Heap) (n0 : Nat) (v : Option Value) (h : Heap) (L : List Loc) : Prop := v = some (.double (own_avg sm (1 : Int32))) ∧ Fr n0 L ∧ h = h0
set_option maxRecDepth 65536 in
set_option maxHeartbeats 40000000 in
theorem rmAv1 (l : Launch) (Z : State) (a0 : Array Value) (hw : ∀ d ∈ tables_1, d.before a0 Z = true) (ws : List Jvm.Cond) (a1 : Addr) (a2 : Addr) (ki : ClassId) (x0 : Int32) (sm : Int64) (h0 : Heap) (n0 : Nat) (Z0 : n0 ≤ h0.size) (pF_lengths_a1 : Fld Z h0 a1 "com/example/descriptor/descriptor/engine/index/InvertedField" "lengths" "[I" (.ref a2)) (pF_totalLength_a1 : Fld Z h0 a1 "com/example/descriptor/descriptor/engine/index/InvertedField" "totalLength" "J" (.long sm)) (pV_a2 : Arv Z h0 a2 ki .int (1 : Int32) [(.int x0)] (.int (0 : Int32))) (hs : (sm.toInt.natAbs ≤ 2 ^ 53)) :
    MetFree l (⟨"com/example/descriptor/descriptor/engine/index/InvertedField", "averageLength", "()D"⟩ : MethodName) (head1 (Jvm.Cond.code (⟨"com/example/descriptor/descriptor/engine/index/InvertedField", "averageLength", "()D"⟩ : MethodName) prog_17_method_5_code 1 (some .double) :: ws) ({ frames := 0, cells := 0, slots := 0, locals := 0 } : Room)) (fun a U => a = #[(.ref a1)] ∧ Z.Warmed39 U.vm ∧ U.heap = h0) (fun _ _ _ _ _ => True) (fun _ U o U' => ∃ v L, o = .returned v ∧ Q_rmAv1 Z a1 a2 ki x0 sm h0 n0 v U'.heap L ∧ FrameEnd U o U' L ({ frames := 0, cells := 0, slots := 0, locals := 0 } : Room).cells ({ frames := 0, cells := 0, slots := 0, locals := 0 } : Room).slots) := by
  refine MetFree.of_bodySF (plainFor_of_name pn_3) hisR ?_
  intro p e s m args below meth c s₁ Bd hml0 hP hK
  obtain ⟨rfl, hZ, hh⟩ := hP
  have hx := Bd.exec
  have hby := Bd.bytes
  have hml : c.maxLocals = 1 := hml0
  have hown : s.vm.findClass "com/example/descriptor/descriptor/engine/index/InvertedField" = some m.cls := findClass_of_methodNamed Bd.named
  have hnm := (name_of_methodNamed Bd.named Bd.method).1
  have X0 : Stand p l e ({ frames := 0, cells := 0, slots := 0, locals := 0 } : Room) s m #[(.ref a1)] below meth c s₁ [] 0 0 := Stand.of_body Bd
  have e0 : s₁.heap = h0 := by rw [← hh, Bd.state]; rfl
  have N0 := Fr.nil n0
  refine own_enter (ef_rmAv1 m a1) ?_
  refine own_st (fun t_ k_ => XS.aloadN X0.here hx rfl (hb hby d3_0) rfl rfl k_) ?_
  show own_Go p e below s₁ (mkF m 1 #[.val (.ref a1)] [(.ref a1)]) _
  obtain ⟨T1, X1, e1, st1⟩ := getF X0 hx hZ hown (host := "") (Or.inl (hw _ (List.mem_of_getElem? (i := 10) rfl))) Via.refl e0 pF_lengths_a1 (g := (mkF m 1 #[.val (.ref a1)] [(.ref a1)])) rfl rfl (hb hby d3_1)
  refine own_st st1 ?_
  show own_Go p e below T1 (mkF m 4 #[.val (.ref a1)] [(.ref a2)]) _
  obtain ⟨cl2, Ar2, q2, Sz2, Nn2, Hh2, Gg2⟩ := id pV_a2
  refine own_st (fun t_ k_ => X1.arraylength hx (by rw [e1]; exact Ar2.1) (State.isArrayOf_alike hZ.alike Ar2.2.1) (g := (mkF m 4 #[.val (.ref a1)] [(.ref a2)])) rfl rfl (hb hby d3_4) _ k_) ?_
  rw [len_of Sz2 Nn2]
  show own_Go p e below T1 (mkF m 5 #[.val (.ref a1)] [(.int (1 : Int32))]) _
  refine own_st (fun t_ k_ => XS.ifYes X1.here hx rfl (pc0 := 5) (pc' := 12) rfl (hb hby d3_5) rfl (by decide) (by decide) (by decide) k_) ?_
  show own_Go p e below T1 (mkF m 12 #[.val (.ref a1)] []) _
  refine own_st (fun t_ k_ => XS.aloadN X1.here hx rfl (hb hby d3_12) rfl rfl k_) ?_
  show own_Go p e below T1 (mkF m 13 #[.val (.ref a1)] [(.ref a1)]) _
  obtain ⟨T3, X3, e3, st3⟩ := getF X1 hx hZ hown (host := "") (Or.inl (hw _ (List.mem_of_getElem? (i := 14) rfl))) Via.refl e1 pF_totalLength_a1 (g := (mkF m 13 #[.val (.ref a1)] [(.ref a1)])) rfl rfl (hb hby d3_13)
  refine own_st st3 ?_
  show own_Go p e below T3 (mkF m 16 #[.val (.ref a1)] [(.long sm)]) _
  refine own_st (fun t_ k_ => XS.l2dS X3.here hx rfl (hb hby d3_16) rfl rfl k_) ?_
  show own_Go p e below T3 (mkF m 17 #[.val (.ref a1)] [(.double (FP.l2d sm))]) _
  refine own_st (fun t_ k_ => XS.aloadN X3.here hx rfl (hb hby d3_17) rfl rfl k_) ?_
  show own_Go p e below T3 (mkF m 18 #[.val (.ref a1)] [(.ref a1), (.double (FP.l2d sm))]) _
  obtain ⟨T4, X4, e4, st4⟩ := getF X3 hx hZ hown (host := "") (Or.inl (hw _ (List.mem_of_getElem? (i := 10) rfl))) Via.refl e3 pF_lengths_a1 (g := (mkF m 18 #[.val (.ref a1)] [(.ref a1), (.double (FP.l2d sm))])) rfl rfl (hb hby d3_18)
  refine own_st st4 ?_
  show own_Go p e below T4 (mkF m 21 #[.val (.ref a1)] [(.ref a2), (.double (FP.l2d sm))]) _
  obtain ⟨cl5, Ar5, q5, Sz5, Nn5, Hh5, Gg5⟩ := id pV_a2
  refine own_st (fun t_ k_ => X4.arraylength hx (by rw [e4]; exact Ar5.1) (State.isArrayOf_alike hZ.alike Ar5.2.1) (g := (mkF m 21 #[.val (.ref a1)] [(.ref a2), (.double (FP.l2d sm))])) rfl rfl (hb hby d3_21) _ k_) ?_
  rw [len_of Sz5 Nn5]
  show own_Go p e below T4 (mkF m 22 #[.val (.ref a1)] [(.int (1 : Int32)), (.double (FP.l2d sm))]) _
  refine own_st (fun t_ k_ => XS.i2dS X4.here hx rfl (hb hby d3_22) rfl rfl k_) ?_
  show own_Go p e below T4 (mkF m 23 #[.val (.ref a1)] [(.double (FP.i2d (1 : Int32))), (.double (FP.l2d sm))]) _
  refine own_st (fun t_ k_ => XS.ddivS X4.here hx rfl (hb hby d3_23) rfl (own_avg_facts hs (by decide) (by decide)).1 rfl k_) ?_
  show own_Go p e below T4 (mkF m 24 #[.val (.ref a1)] [(.double (FP.ddiv (FP.l2d sm) (FP.i2d (1 : Int32))))]) _
  show own_Go p e below T4 (mkF m 24 #[.val (.ref a1)] [(.double (own_avg sm (1 : Int32)))]) _
  obtain ⟨fs, hr, hrun, hended, hW, hsame⟩ := X4.leave (v := some (.double (own_avg sm (1 : Int32)))) (fun h => by rw [Bd.returns] at h; cases h)
  refine own_fin (own_retD X4 hx Bd.returns (hb hby d3_24) hr) ⟨hrun, hended, _, _, rfl, ?_, ⟨_, rfl⟩, hW, hsame.mono (by decide) (by decide)⟩
  show Q_rmAv1 Z a1 a2 ki x0 sm h0 n0 _ T4.heap _
  rw [e4]
  exact ⟨rfl, N0, rfl⟩
theorem ef_rmIn2 (m : MethodId) (x0 : Addr) (x1 : Addr) : entryFrame m #[(.ref x0), (.ref x1), .null] 9 = mkF m 0 #[.val (.ref x0), .val (.ref x1), .val .null, .unset, .unset, .unset, .unset, .unset, .unset] [] := by first | (simp [entryFrame, mkF, argsToLocals, Value.category]; done) | rfl
def Q_rmIn2 (Z : State) (a1 : Addr) (a2 : Addr) (ki : ClassId) (x0 : Int32) (x1 : Int32) (u1 : Value) (u2 : Value) (u3 : Value) (h0 : Heap) (n0 : Nat) (v : Option Value) (h : Heap) (L : List Loc) : Prop := v = none ∧ Fr n0 L ∧ Keep h0 h [a1] ∧ Exa Z h a1 "com/example/descriptor/descriptor/engine/index/InvertedField" ∧ Fld Z h a1 "com/example/descriptor/descriptor/engine/index/InvertedField" "lengths" "[I" (.ref a2) ∧ Fld Z h a1 "com/example/descriptor/descriptor/engine/index/InvertedField" "totalLength" "J" (.long (((0 : Int64) + (x0.toInt64)) + (x1.toInt64))) ∧ Arv Z h a2 ki .int (2 : Int32) [(.int x0), (.int x1)] (.int (0 : Int32))
set_option maxRecDepth 65536 in
set_option maxHeartbeats 40000000 in
theorem rmIn2 (l : Launch) (Z : State) (a0 : Array Value) (hw : ∀ d ∈ tables_1, d.before a0 Z = true) (ws : List Jvm.Cond) (a1 : Addr) (a2 : Addr) (ki : ClassId) (x0 : Int32) (x1 : Int32) (u1 : Value) (u2 : Value) (u3 : Value) (h0 : Heap) (n0 : Nat) (Z0 : n0 ≤ h0.size) (pE_a1 : Exa Z h0 a1 "com/example/descriptor/descriptor/engine/index/InvertedField") (pF_lengths_a1 : Fld Z h0 a1 "com/example/descriptor/descriptor/engine/index/InvertedField" "lengths" "[I" u1) (pF_postings_a1 : Fld Z h0 a1 "com/example/descriptor/descriptor/engine/index/InvertedField" "postings" "Ljava/util/Map;" u2) (pF_totalLength_a1 : Fld Z h0 a1 "com/example/descriptor/descriptor/engine/index/InvertedField" "totalLength" "J" u3) (pG_a1 : n0 ≤ a1) (pV_a2 : Arv Z h0 a2 ki .int (2 : Int32) [(.int x0), (.int x1)] (.int (0 : Int32))) :
    MetFree l (⟨"com/example/descriptor/descriptor/engine/index/InvertedField", "<init>", "([ILjava/util/Map;)V"⟩ : MethodName) (head1 (Jvm.Cond.code (⟨"com/example/descriptor/descriptor/engine/index/InvertedField", "<init>", "([ILjava/util/Map;)V"⟩ : MethodName) prog_17_method_1_code 9 none :: ws) ({ frames := 1, cells := 0, slots := 0, locals := 12 } : Room)) (fun a U => a = #[(.ref a1), (.ref a2), .null] ∧ Z.Warmed39 U.vm ∧ U.heap = h0) (fun _ _ _ _ _ => True) (fun _ U o U' => ∃ v L, o = .returned v ∧ Q_rmIn2 Z a1 a2 ki x0 x1 u1 u2 u3 h0 n0 v U'.heap L ∧ FrameEnd U o U' L ({ frames := 1, cells := 0, slots := 0, locals := 12 } : Room).cells ({ frames := 1, cells := 0, slots := 0, locals := 12 } : Room).slots) := by
  refine MetFree.of_bodySF (plainFor_of_name pn_1) hisR ?_
  intro p e s m args below meth c s₁ Bd hml0 hP hK
  obtain ⟨rfl, hZ, hh⟩ := hP
  have hx := Bd.exec
  have hby := Bd.bytes
  have hml : c.maxLocals = 9 := hml0
  have hown : s.vm.findClass "com/example/descriptor/descriptor/engine/index/InvertedField" = some m.cls := findClass_of_methodNamed Bd.named
  have hnm := (name_of_methodNamed Bd.named Bd.method).1
  have X0 : Stand p l e ({ frames := 1, cells := 0, slots := 0, locals := 12 } : Room) s m #[(.ref a1), (.ref a2), .null] below meth c s₁ [] 0 0 := Stand.of_body Bd
  have e0 : s₁.heap = h0 := by rw [← hh, Bd.state]; rfl
  have N0 := Fr.nil n0
  refine own_enter (ef_rmIn2 m a1 a2) ?_
  refine own_st (fun t_ k_ => XS.aloadN X0.here hx rfl (hb hby d1_0) rfl rfl k_) ?_
  show own_Go p e below s₁ (mkF m 1 #[.val (.ref a1), .val (.ref a2), .val .null, .unset, .unset, .unset, .unset, .unset, .unset] [(.ref a1)]) _
  obtain ⟨T1, X1, e1, st1⟩ := initO X0 hx hZ hown (hw _ (List.mem_of_getElem? (i := 7) rfl)) (hw _ (List.mem_of_getElem? (i := 8) rfl)) (hw _ (List.mem_of_getElem? (i := 9) rfl)) e0 (g := (mkF m 1 #[.val (.ref a1), .val (.ref a2), .val .null, .unset, .unset, .unset, .unset, .unset, .unset] [(.ref a1)])) rfl (by rw [hml]; rfl) rfl (hb hby d1_1) (by decide) (W := 0) (by show 2 * 0 + _ ≤ _; exact Nat.le_of_eq rfl) (by decide)
  refine own_st st1 ?_
  show own_Go p e below T1 (mkF m 4 #[.val (.ref a1), .val (.ref a2), .val .null, .unset, .unset, .unset, .unset, .unset, .unset] []) _
  refine own_st (fun t_ k_ => XS.aloadN X1.here hx rfl (hb hby d1_4) rfl rfl k_) ?_
  show own_Go p e below T1 (mkF m 5 #[.val (.ref a1), .val (.ref a2), .val .null, .unset, .unset, .unset, .unset, .unset, .unset] [(.ref a1)]) _
  refine own_st (fun t_ k_ => XS.aloadN X1.here hx rfl (hb hby d1_5) rfl rfl k_) ?_
  show own_Go p e below T1 (mkF m 6 #[.val (.ref a1), .val (.ref a2), .val .null, .unset, .unset, .unset, .unset, .unset, .unset] [(.ref a2), (.ref a1)]) _
  obtain ⟨T2, h2, X2, e2, W2, st2⟩ := putF X1 hx hZ hown (host := "") (Or.inl (hw _ (List.mem_of_getElem? (i := 10) rfl))) Via.refl e1 pF_lengths_a1 pE_a1 (Or.inr ⟨(hw _ (List.mem_of_getElem? (i := 11) rfl)), rfl, hnm⟩) (hw _ (List.mem_of_getElem? (i := 2) rfl)) (ty := (.array .int)) (by decide) rfl rfl (g := (mkF m 6 #[.val (.ref a1), .val (.ref a2), .val .null, .unset, .unset, .unset, .unset, .unset, .unset] [(.ref a2), (.ref a1)])) rfl rfl (hb hby d1_6)
  have F2 := pF_lengths_a1.same W2
  have K3 : Keep h0 h2 [a1] := (Keep.refl h0 [a1]).wr W2 (Or.inl (List.mem_of_getElem? (i := 0) rfl))
  have N2 := Fr.snoc X2 N0 pG_a1
  refine own_st st2 ?_
  show own_Go p e below T2 (mkF m 9 #[.val (.ref a1), .val (.ref a2), .val .null, .unset, .unset, .unset, .unset, .unset, .unset] []) _
  refine own_st (fun t_ k_ => XS.aloadN X2.here hx rfl (hb hby d1_9) rfl rfl k_) ?_
  show own_Go p e below T2 (mkF m 10 #[.val (.ref a1), .val (.ref a2), .val .null, .unset, .unset, .unset, .unset, .unset, .unset] [(.ref a1)]) _
  refine own_st (fun t_ k_ => XS.aloadN X2.here hx rfl (hb hby d1_10) rfl rfl k_) ?_
  show own_Go p e below T2 (mkF m 11 #[.val (.ref a1), .val (.ref a2), .val .null, .unset, .unset, .unset, .unset, .unset, .unset] [.null, (.ref a1)]) _
  have f4 := (pE_a1.wr W2)
  have f5 := (pF_postings_a1.other W2 (Or.inr (slot_ne (Or.inr (hw _ (List.mem_of_getElem? (i := 13) rfl))) (Or.inr (hw _ (List.mem_of_getElem? (i := 11) rfl))) (by decide) (t := (.object "java/util/Map")) (t' := (.array .int)) (by decide) (by decide))))
  obtain ⟨T6, h6, X6, e6, W6, st6⟩ := putF X2 hx hZ hown (host := "") (Or.inl (hw _ (List.mem_of_getElem? (i := 12) rfl))) Via.refl e2 f5 f4 (Or.inr ⟨(hw _ (List.mem_of_getElem? (i := 13) rfl)), rfl, hnm⟩) (hw _ (List.mem_of_getElem? (i := 2) rfl)) (ty := (.object "java/util/Map")) (by decide) rfl rfl (g := (mkF m 11 #[.val (.ref a1), .val (.ref a2), .val .null, .unset, .unset, .unset, .unset, .unset, .unset] [.null, (.ref a1)])) rfl rfl (hb hby d1_11)
  have F6 := f5.same W6
  have K7 : Keep h0 h6 [a1] := K3.wr W6 (Or.inl (List.mem_of_getElem? (i := 0) rfl))
  have N6 := Fr.snoc X6 N2 pG_a1
  refine own_st st6 ?_
  show own_Go p e below T6 (mkF m 14 #[.val (.ref a1), .val (.ref a2), .val .null, .unset, .unset, .unset, .unset, .unset, .unset] []) _
  refine own_st (fun t_ k_ => XS.lconst X6.here hx rfl (hb hby d1_14) k_) ?_
  show own_Go p e below T6 (mkF m 15 #[.val (.ref a1), .val (.ref a2), .val .null, .unset, .unset, .unset, .unset, .unset, .unset] [(.long (0 : Int64))]) _
  refine own_st (fun t_ k_ => XS.lstoreN X6.here hx rfl (hb hby d1_15) rfl (l' := #[.val (.ref a1), .val (.ref a2), .val .null, .val (.long (0 : Int64)), .second, .unset, .unset, .unset, .unset]) rfl k_) ?_
  show own_Go p e below T6 (mkF m 16 #[.val (.ref a1), .val (.ref a2), .val .null, .val (.long (0 : Int64)), .second, .unset, .unset, .unset, .unset] []) _
  refine own_st (fun t_ k_ => XS.aloadN X6.here hx rfl (hb hby d1_16) rfl rfl k_) ?_
  show own_Go p e below T6 (mkF m 17 #[.val (.ref a1), .val (.ref a2), .val .null, .val (.long (0 : Int64)), .second, .unset, .unset, .unset, .unset] [(.ref a2)]) _
  refine own_st (fun t_ k_ => XS.astore X6.here hx rfl (hb hby d1_17) rfl rfl (l' := #[.val (.ref a1), .val (.ref a2), .val .null, .val (.long (0 : Int64)), .second, .val (.ref a2), .unset, .unset, .unset]) rfl k_) ?_
  show own_Go p e below T6 (mkF m 19 #[.val (.ref a1), .val (.ref a2), .val .null, .val (.long (0 : Int64)), .second, .val (.ref a2), .unset, .unset, .unset] []) _
  refine own_st (fun t_ k_ => XS.aload X6.here hx rfl (hb hby d1_19) rfl rfl k_) ?_
  show own_Go p e below T6 (mkF m 21 #[.val (.ref a1), .val (.ref a2), .val .null, .val (.long (0 : Int64)), .second, .val (.ref a2), .unset, .unset, .unset] [(.ref a2)]) _
  have f8 := ((pV_a2.other W2 (Ne.symm (Exa.neArv pE_a1 pV_a2 (hw _ (List.mem_of_getElem? (i := 2) rfl))))).other W6 (Ne.symm (Exa.neArv pE_a1 pV_a2 (hw _ (List.mem_of_getElem? (i := 2) rfl)))))
  obtain ⟨cl9, Ar9, q9, Sz9, Nn9, Hh9, Gg9⟩ := id f8
  refine own_st (fun t_ k_ => X6.arraylength hx (by rw [e6]; exact Ar9.1) (State.isArrayOf_alike hZ.alike Ar9.2.1) (g := (mkF m 21 #[.val (.ref a1), .val (.ref a2), .val .null, .val (.long (0 : Int64)), .second, .val (.ref a2), .unset, .unset, .unset] [(.ref a2)])) rfl rfl (hb hby d1_21) _ k_) ?_
  rw [len_of Sz9 Nn9]
  show own_Go p e below T6 (mkF m 22 #[.val (.ref a1), .val (.ref a2), .val .null, .val (.long (0 : Int64)), .second, .val (.ref a2), .unset, .unset, .unset] [(.int (2 : Int32))]) _
  refine own_st (fun t_ k_ => XS.istore X6.here hx rfl (hb hby d1_22) rfl (l' := #[.val (.ref a1), .val (.ref a2), .val .null, .val (.long (0 : Int64)), .second, .val (.ref a2), .val (.int (2 : Int32)), .unset, .unset]) rfl k_) ?_
  show own_Go p e below T6 (mkF m 24 #[.val (.ref a1), .val (.ref a2), .val .null, .val (.long (0 : Int64)), .second, .val (.ref a2), .val (.int (2 : Int32)), .unset, .unset] []) _
  refine own_st (fun t_ k_ => XS.iconst X6.here hx rfl (hb hby d1_24) k_) ?_
  show own_Go p e below T6 (mkF m 25 #[.val (.ref a1), .val (.ref a2), .val .null, .val (.long (0 : Int64)), .second, .val (.ref a2), .val (.int (2 : Int32)), .unset, .unset] [(.int (0 : Int32))]) _
  refine own_st (fun t_ k_ => XS.istore X6.here hx rfl (hb hby d1_25) rfl (l' := #[.val (.ref a1), .val (.ref a2), .val .null, .val (.long (0 : Int64)), .second, .val (.ref a2), .val (.int (2 : Int32)), .val (.int (0 : Int32)), .unset]) rfl k_) ?_
  show own_Go p e below T6 (mkF m 27 #[.val (.ref a1), .val (.ref a2), .val .null, .val (.long (0 : Int64)), .second, .val (.ref a2), .val (.int (2 : Int32)), .val (.int (0 : Int32)), .unset] []) _
  refine own_st (fun t_ k_ => XS.iload X6.here hx rfl (hb hby d1_27) rfl k_) ?_
  show own_Go p e below T6 (mkF m 29 #[.val (.ref a1), .val (.ref a2), .val .null, .val (.long (0 : Int64)), .second, .val (.ref a2), .val (.int (2 : Int32)), .val (.int (0 : Int32)), .unset] [(.int (0 : Int32))]) _
  refine own_st (fun t_ k_ => XS.iload X6.here hx rfl (hb hby d1_29) rfl k_) ?_
  show own_Go p e below T6 (mkF m 31 #[.val (.ref a1), .val (.ref a2), .val .null, .val (.long (0 : Int64)), .second, .val (.ref a2), .val (.int (2 : Int32)), .val (.int (0 : Int32)), .unset] [(.int (2 : Int32)), (.int (0 : Int32))]) _
  refine own_st (fun t_ k_ => XS.icmpNo X6.here hx rfl (hb hby d1_31) rfl (by decide) k_) ?_
  show own_Go p e below T6 (mkF m 34 #[.val (.ref a1), .val (.ref a2), .val .null, .val (.long (0 : Int64)), .second, .val (.ref a2), .val (.int (2 : Int32)), .val (.int (0 : Int32)), .unset] []) _
  refine own_st (fun t_ k_ => XS.aload X6.here hx rfl (hb hby d1_34) rfl rfl k_) ?_
  show own_Go p e below T6 (mkF m 36 #[.val (.ref a1), .val (.ref a2), .val .null, .val (.long (0 : Int64)), .second, .val (.ref a2), .val (.int (2 : Int32)), .val (.int (0 : Int32)), .unset] [(.ref a2)]) _
  refine own_st (fun t_ k_ => XS.iload X6.here hx rfl (hb hby d1_36) rfl k_) ?_
  show own_Go p e below T6 (mkF m 38 #[.val (.ref a1), .val (.ref a2), .val .null, .val (.long (0 : Int64)), .second, .val (.ref a2), .val (.int (2 : Int32)), .val (.int (0 : Int32)), .unset] [(.int (0 : Int32)), (.ref a2)]) _
  obtain ⟨cl10, Ar10, q10, Sz10, Nn10, Hh10, Gg10⟩ := id f8
  have hin10 : ¬ ((0 : Int32) < 0 ∨ cl10.slots.size ≤ ((0 : Int32)).toNatClampNeg) := inb_of Sz10 ⟨by decide, by decide⟩
  have hat10 : cl10.slots[((0 : Int32)).toNatClampNeg]? = some (.int x0) := Has.at Hh10 hin10 rfl
  refine own_st (fun t_ k_ => X6.iaload hx (j := (0 : Int32)) (v := (.int x0)) (by rw [e6]; exact Ar10.1) (State.isArrayOf_alike hZ.alike Ar10.2.1) Ar10.2.2 hin10 hat10 (g := (mkF m 38 #[.val (.ref a1), .val (.ref a2), .val .null, .val (.long (0 : Int64)), .second, .val (.ref a2), .val (.int (2 : Int32)), .val (.int (0 : Int32)), .unset] [(.int (0 : Int32)), (.ref a2)])) rfl rfl (hb hby d1_38) _ k_) ?_
  show own_Go p e below T6 (mkF m 39 #[.val (.ref a1), .val (.ref a2), .val .null, .val (.long (0 : Int64)), .second, .val (.ref a2), .val (.int (2 : Int32)), .val (.int (0 : Int32)), .unset] [(.int x0)]) _
  refine own_st (fun t_ k_ => XS.istore X6.here hx rfl (hb hby d1_39) rfl (l' := #[.val (.ref a1), .val (.ref a2), .val .null, .val (.long (0 : Int64)), .second, .val (.ref a2), .val (.int (2 : Int32)), .val (.int (0 : Int32)), .val (.int x0)]) rfl k_) ?_
  show own_Go p e below T6 (mkF m 41 #[.val (.ref a1), .val (.ref a2), .val .null, .val (.long (0 : Int64)), .second, .val (.ref a2), .val (.int (2 : Int32)), .val (.int (0 : Int32)), .val (.int x0)] []) _
  refine own_st (fun t_ k_ => XS.lloadN X6.here hx rfl (hb hby d1_41) rfl k_) ?_
  show own_Go p e below T6 (mkF m 42 #[.val (.ref a1), .val (.ref a2), .val .null, .val (.long (0 : Int64)), .second, .val (.ref a2), .val (.int (2 : Int32)), .val (.int (0 : Int32)), .val (.int x0)] [(.long (0 : Int64))]) _
  refine own_st (fun t_ k_ => XS.iload X6.here hx rfl (hb hby d1_42) rfl k_) ?_
  show own_Go p e below T6 (mkF m 44 #[.val (.ref a1), .val (.ref a2), .val .null, .val (.long (0 : Int64)), .second, .val (.ref a2), .val (.int (2 : Int32)), .val (.int (0 : Int32)), .val (.int x0)] [(.int x0), (.long (0 : Int64))]) _
  refine own_st (fun t_ k_ => XS.i2l X6.here hx rfl (hb hby d1_44) rfl k_) ?_
  show own_Go p e below T6 (mkF m 45 #[.val (.ref a1), .val (.ref a2), .val .null, .val (.long (0 : Int64)), .second, .val (.ref a2), .val (.int (2 : Int32)), .val (.int (0 : Int32)), .val (.int x0)] [(.long (x0.toInt64)), (.long (0 : Int64))]) _
  refine own_st (fun t_ k_ => XS.ladd X6.here hx rfl (hb hby d1_45) rfl k_) ?_
  show own_Go p e below T6 (mkF m 46 #[.val (.ref a1), .val (.ref a2), .val .null, .val (.long (0 : Int64)), .second, .val (.ref a2), .val (.int (2 : Int32)), .val (.int (0 : Int32)), .val (.int x0)] [(.long ((0 : Int64) + (x0.toInt64)))]) _
  refine own_st (fun t_ k_ => XS.lstoreN X6.here hx rfl (hb hby d1_46) rfl (l' := #[.val (.ref a1), .val (.ref a2), .val .null, .val (.long ((0 : Int64) + (x0.toInt64))), .second, .val (.ref a2), .val (.int (2 : Int32)), .val (.int (0 : Int32)), .val (.int x0)]) rfl k_) ?_
  show own_Go p e below T6 (mkF m 47 #[.val (.ref a1), .val (.ref a2), .val .null, .val (.long ((0 : Int64) + (x0.toInt64))), .second, .val (.ref a2), .val (.int (2 : Int32)), .val (.int (0 : Int32)), .val (.int x0)] []) _
  refine own_st (fun t_ k_ => XS.iinc X6.here hx rfl (hb hby d1_47) rfl (l' := #[.val (.ref a1), .val (.ref a2), .val .null, .val (.long ((0 : Int64) + (x0.toInt64))), .second, .val (.ref a2), .val (.int (2 : Int32)), .val (.int (1 : Int32)), .val (.int x0)]) rfl k_) ?_
  show own_Go p e below T6 (mkF m 50 #[.val (.ref a1), .val (.ref a2), .val .null, .val (.long ((0 : Int64) + (x0.toInt64))), .second, .val (.ref a2), .val (.int (2 : Int32)), .val (.int (1 : Int32)), .val (.int x0)] []) _
  refine own_st (fun t_ k_ => XS.goto X6.here hx rfl (pc0 := 50) (pc' := 27) rfl (hb hby d1_50) (by decide) (by decide) k_) ?_
  show own_Go p e below T6 (mkF m 27 #[.val (.ref a1), .val (.ref a2), .val .null, .val (.long ((0 : Int64) + (x0.toInt64))), .second, .val (.ref a2), .val (.int (2 : Int32)), .val (.int (1 : Int32)), .val (.int x0)] []) _
  refine own_st (fun t_ k_ => XS.iload X6.here hx rfl (hb hby d1_27) rfl k_) ?_
  show own_Go p e below T6 (mkF m 29 #[.val (.ref a1), .val (.ref a2), .val .null, .val (.long ((0 : Int64) + (x0.toInt64))), .second, .val (.ref a2), .val (.int (2 : Int32)), .val (.int (1 : Int32)), .val (.int x0)] [(.int (1 : Int32))]) _
  refine own_st (fun t_ k_ => XS.iload X6.here hx rfl (hb hby d1_29) rfl k_) ?_
  show own_Go p e below T6 (mkF m 31 #[.val (.ref a1), .val (.ref a2), .val .null, .val (.long ((0 : Int64) + (x0.toInt64))), .second, .val (.ref a2), .val (.int (2 : Int32)), .val (.int (1 : Int32)), .val (.int x0)] [(.int (2 : Int32)), (.int (1 : Int32))]) _
  refine own_st (fun t_ k_ => XS.icmpNo X6.here hx rfl (hb hby d1_31) rfl (by decide) k_) ?_
  show own_Go p e below T6 (mkF m 34 #[.val (.ref a1), .val (.ref a2), .val .null, .val (.long ((0 : Int64) + (x0.toInt64))), .second, .val (.ref a2), .val (.int (2 : Int32)), .val (.int (1 : Int32)), .val (.int x0)] []) _
  refine own_st (fun t_ k_ => XS.aload X6.here hx rfl (hb hby d1_34) rfl rfl k_) ?_
  show own_Go p e below T6 (mkF m 36 #[.val (.ref a1), .val (.ref a2), .val .null, .val (.long ((0 : Int64) + (x0.toInt64))), .second, .val (.ref a2), .val (.int (2 : Int32)), .val (.int (1 : Int32)), .val (.int x0)] [(.ref a2)]) _
  refine own_st (fun t_ k_ => XS.iload X6.here hx rfl (hb hby d1_36) rfl k_) ?_
  show own_Go p e below T6 (mkF m 38 #[.val (.ref a1), .val (.ref a2), .val .null, .val (.long ((0 : Int64) + (x0.toInt64))), .second, .val (.ref a2), .val (.int (2 : Int32)), .val (.int (1 : Int32)), .val (.int x0)] [(.int (1 : Int32)), (.ref a2)]) _
  obtain ⟨cl11, Ar11, q11, Sz11, Nn11, Hh11, Gg11⟩ := id f8
  have hin11 : ¬ ((1 : Int32) < 0 ∨ cl11.slots.size ≤ ((1 : Int32)).toNatClampNeg) := inb_of Sz11 ⟨by decide, by decide⟩
  have hat11 : cl11.slots[((1 : Int32)).toNatClampNeg]? = some (.int x1) := Has.at Hh11 hin11 rfl
  refine own_st (fun t_ k_ => X6.iaload hx (j := (1 : Int32)) (v := (.int x1)) (by rw [e6]; exact Ar11.1) (State.isArrayOf_alike hZ.alike Ar11.2.1) Ar11.2.2 hin11 hat11 (g := (mkF m 38 #[.val (.ref a1), .val (.ref a2), .val .null, .val (.long ((0 : Int64) + (x0.toInt64))), .second, .val (.ref a2), .val (.int (2 : Int32)), .val (.int (1 : Int32)), .val (.int x0)] [(.int (1 : Int32)), (.ref a2)])) rfl rfl (hb hby d1_38) _ k_) ?_
  show own_Go p e below T6 (mkF m 39 #[.val (.ref a1), .val (.ref a2), .val .null, .val (.long ((0 : Int64) + (x0.toInt64))), .second, .val (.ref a2), .val (.int (2 : Int32)), .val (.int (1 : Int32)), .val (.int x0)] [(.int x1)]) _
  refine own_st (fun t_ k_ => XS.istore X6.here hx rfl (hb hby d1_39) rfl (l' := #[.val (.ref a1), .val (.ref a2), .val .null, .val (.long ((0 : Int64) + (x0.toInt64))), .second, .val (.ref a2), .val (.int (2 : Int32)), .val (.int (1 : Int32)), .val (.int x1)]) rfl k_) ?_
  show own_Go p e below T6 (mkF m 41 #[.val (.ref a1), .val (.ref a2), .val .null, .val (.long ((0 : Int64) + (x0.toInt64))), .second, .val (.ref a2), .val (.int (2 : Int32)), .val (.int (1 : Int32)), .val (.int x1)] []) _
  refine own_st (fun t_ k_ => XS.lloadN X6.here hx rfl (hb hby d1_41) rfl k_) ?_
  show own_Go p e below T6 (mkF m 42 #[.val (.ref a1), .val (.ref a2), .val .null, .val (.long ((0 : Int64) + (x0.toInt64))), .second, .val (.ref a2), .val (.int (2 : Int32)), .val (.int (1 : Int32)), .val (.int x1)] [(.long ((0 : Int64) + (x0.toInt64)))]) _
  refine own_st (fun t_ k_ => XS.iload X6.here hx rfl (hb hby d1_42) rfl k_) ?_
  show own_Go p e below T6 (mkF m 44 #[.val (.ref a1), .val (.ref a2), .val .null, .val (.long ((0 : Int64) + (x0.toInt64))), .second, .val (.ref a2), .val (.int (2 : Int32)), .val (.int (1 : Int32)), .val (.int x1)] [(.int x1), (.long ((0 : Int64) + (x0.toInt64)))]) _
  refine own_st (fun t_ k_ => XS.i2l X6.here hx rfl (hb hby d1_44) rfl k_) ?_
  show own_Go p e below T6 (mkF m 45 #[.val (.ref a1), .val (.ref a2), .val .null, .val (.long ((0 : Int64) + (x0.toInt64))), .second, .val (.ref a2), .val (.int (2 : Int32)), .val (.int (1 : Int32)), .val (.int x1)] [(.long (x1.toInt64)), (.long ((0 : Int64) + (x0.toInt64)))]) _
  refine own_st (fun t_ k_ => XS.ladd X6.here hx rfl (hb hby d1_45) rfl k_) ?_
  show own_Go p e below T6 (mkF m 46 #[.val (.ref a1), .val (.ref a2), .val .null, .val (.long ((0 : Int64) + (x0.toInt64))), .second, .val (.ref a2), .val (.int (2 : Int32)), .val (.int (1 : Int32)), .val (.int x1)] [(.long (((0 : Int64) + (x0.toInt64)) + (x1.toInt64)))]) _
  refine own_st (fun t_ k_ => XS.lstoreN X6.here hx rfl (hb hby d1_46) rfl (l' := #[.val (.ref a1), .val (.ref a2), .val .null, .val (.long (((0 : Int64) + (x0.toInt64)) + (x1.toInt64))), .second, .val (.ref a2), .val (.int (2 : Int32)), .val (.int (1 : Int32)), .val (.int x1)]) rfl k_) ?_
  show own_Go p e below T6 (mkF m 47 #[.val (.ref a1), .val (.ref a2), .val .null, .val (.long (((0 : Int64) + (x0.toInt64)) + (x1.toInt64))), .second, .val (.ref a2), .val (.int (2 : Int32)), .val (.int (1 : Int32)), .val (.int x1)] []) _
  refine own_st (fun t_ k_ => XS.iinc X6.here hx rfl (hb hby d1_47) rfl (l' := #[.val (.ref a1), .val (.ref a2), .val .null, .val (.long (((0 : Int64) + (x0.toInt64)) + (x1.toInt64))), .second, .val (.ref a2), .val (.int (2 : Int32)), .val (.int (2 : Int32)), .val (.int x1)]) rfl k_) ?_
  show own_Go p e below T6 (mkF m 50 #[.val (.ref a1), .val (.ref a2), .val .null, .val (.long (((0 : Int64) + (x0.toInt64)) + (x1.toInt64))), .second, .val (.ref a2), .val (.int (2 : Int32)), .val (.int (2 : Int32)), .val (.int x1)] []) _
  refine own_st (fun t_ k_ => XS.goto X6.here hx rfl (pc0 := 50) (pc' := 27) rfl (hb hby d1_50) (by decide) (by decide) k_) ?_
  show own_Go p e below T6 (mkF m 27 #[.val (.ref a1), .val (.ref a2), .val .null, .val (.long (((0 : Int64) + (x0.toInt64)) + (x1.toInt64))), .second, .val (.ref a2), .val (.int (2 : Int32)), .val (.int (2 : Int32)), .val (.int x1)] []) _
  refine own_st (fun t_ k_ => XS.iload X6.here hx rfl (hb hby d1_27) rfl k_) ?_
  show own_Go p e below T6 (mkF m 29 #[.val (.ref a1), .val (.ref a2), .val .null, .val (.long (((0 : Int64) + (x0.toInt64)) + (x1.toInt64))), .second, .val (.ref a2), .val (.int (2 : Int32)), .val (.int (2 : Int32)), .val (.int x1)] [(.int (2 : Int32))]) _
  refine own_st (fun t_ k_ => XS.iload X6.here hx rfl (hb hby d1_29) rfl k_) ?_
  show own_Go p e below T6 (mkF m 31 #[.val (.ref a1), .val (.ref a2), .val .null, .val (.long (((0 : Int64) + (x0.toInt64)) + (x1.toInt64))), .second, .val (.ref a2), .val (.int (2 : Int32)), .val (.int (2 : Int32)), .val (.int x1)] [(.int (2 : Int32)), (.int (2 : Int32))]) _
  refine own_st (fun t_ k_ => XS.icmpYes X6.here hx rfl (pc0 := 31) (pc' := 53) rfl (hb hby d1_31) rfl (by decide) (by decide) (by decide) k_) ?_
  show own_Go p e below T6 (mkF m 53 #[.val (.ref a1), .val (.ref a2), .val .null, .val (.long (((0 : Int64) + (x0.toInt64)) + (x1.toInt64))), .second, .val (.ref a2), .val (.int (2 : Int32)), .val (.int (2 : Int32)), .val (.int x1)] []) _
  refine own_st (fun t_ k_ => XS.aloadN X6.here hx rfl (hb hby d1_53) rfl rfl k_) ?_
  show own_Go p e below T6 (mkF m 54 #[.val (.ref a1), .val (.ref a2), .val .null, .val (.long (((0 : Int64) + (x0.toInt64)) + (x1.toInt64))), .second, .val (.ref a2), .val (.int (2 : Int32)), .val (.int (2 : Int32)), .val (.int x1)] [(.ref a1)]) _
  refine own_st (fun t_ k_ => XS.lloadN X6.here hx rfl (hb hby d1_54) rfl k_) ?_
  show own_Go p e below T6 (mkF m 55 #[.val (.ref a1), .val (.ref a2), .val .null, .val (.long (((0 : Int64) + (x0.toInt64)) + (x1.toInt64))), .second, .val (.ref a2), .val (.int (2 : Int32)), .val (.int (2 : Int32)), .val (.int x1)] [(.long (((0 : Int64) + (x0.toInt64)) + (x1.toInt64))), (.ref a1)]) _
  have f12 := (f4.wr W6)
  have f13 := ((pF_totalLength_a1.other W2 (Or.inr (slot_ne (Or.inr (hw _ (List.mem_of_getElem? (i := 15) rfl))) (Or.inr (hw _ (List.mem_of_getElem? (i := 11) rfl))) (by decide) (t := .long) (t' := (.array .int)) (by decide) (by decide)))).other W6 (Or.inr (slot_ne (Or.inr (hw _ (List.mem_of_getElem? (i := 15) rfl))) (Or.inr (hw _ (List.mem_of_getElem? (i := 13) rfl))) (by decide) (t := .long) (t' := (.object "java/util/Map")) (by decide) (by decide))))
  obtain ⟨T14, h14, X14, e14, W14, st14⟩ := putF X6 hx hZ hown (host := "") (Or.inl (hw _ (List.mem_of_getElem? (i := 14) rfl))) Via.refl e6 f13 f12 (Or.inr ⟨(hw _ (List.mem_of_getElem? (i := 15) rfl)), rfl, hnm⟩) (hw _ (List.mem_of_getElem? (i := 2) rfl)) (ty := .long) (by decide) rfl rfl (g := (mkF m 55 #[.val (.ref a1), .val (.ref a2), .val .null, .val (.long (((0 : Int64) + (x0.toInt64)) + (x1.toInt64))), .second, .val (.ref a2), .val (.int (2 : Int32)), .val (.int (2 : Int32)), .val (.int x1)] [(.long (((0 : Int64) + (x0.toInt64)) + (x1.toInt64))), (.ref a1)])) rfl rfl (hb hby d1_55)
  have F14 := f13.same W14
  have K15 : Keep h0 h14 [a1] := K7.wr W14 (Or.inl (List.mem_of_getElem? (i := 0) rfl))
  have N14 := Fr.snoc X14 N6 pG_a1
  refine own_st st14 ?_
  show own_Go p e below T14 (mkF m 58 #[.val (.ref a1), .val (.ref a2), .val .null, .val (.long (((0 : Int64) + (x0.toInt64)) + (x1.toInt64))), .second, .val (.ref a2), .val (.int (2 : Int32)), .val (.int (2 : Int32)), .val (.int x1)] []) _
  have f16 := (f12.wr W14)
  have f17 := ((F2.other W6 (Or.inr (slot_ne (Or.inr (hw _ (List.mem_of_getElem? (i := 11) rfl))) (Or.inr (hw _ (List.mem_of_getElem? (i := 13) rfl))) (by decide) (t := (.array .int)) (t' := (.object "java/util/Map")) (by decide) (by decide)))).other W14 (Or.inr (slot_ne (Or.inr (hw _ (List.mem_of_getElem? (i := 11) rfl))) (Or.inr (hw _ (List.mem_of_getElem? (i := 15) rfl))) (by decide) (t := (.array .int)) (t' := .long) (by decide) (by decide))))
  have f18 := (f8.other W14 (Ne.symm (Exa.neArv f12 f8 (hw _ (List.mem_of_getElem? (i := 2) rfl)))))
  obtain ⟨fs, hr, hrun, hended, hW, hsame⟩ := X14.leave (v := none) (fun _ => rfl)
  refine own_fin (X14.returnOut hx Bd.returns (hb hby d1_58) hr) ⟨hrun, hended, _, _, rfl, ?_, ⟨_, rfl⟩, hW, hsame.mono (by decide) (by decide)⟩
  show Q_rmIn2 Z a1 a2 ki x0 x1 u1 u2 u3 h0 n0 _ T14.heap _
  rw [e14]
  exact ⟨rfl, N14, K15, f16, f17, F14, f18⟩
theorem ef_rmAv2 (m : MethodId) (x0 : Addr) : entryFrame m #[(.ref x0)] 1 = mkF m 0 #[.val (.ref x0)] [] := by first | (simp [entryFrame, mkF, argsToLocals, Value.category]; done) | rfl
def Q_rmAv2 (Z : State) (a1 : Addr) (a2 : Addr) (ki : ClassId) (x0 : Int32) (x1 : Int32) (sm : Int64) (h0 : Heap) (n0 : Nat) (v : Option Value) (h : Heap) (L : List Loc) : Prop := v = some (.double (own_avg sm (2 : Int32))) ∧ Fr n0 L ∧ h = h0
set_option maxRecDepth 65536 in
set_option maxHeartbeats 40000000 in
theorem rmAv2 (l : Launch) (Z : State) (a0 : Array Value) (hw : ∀ d ∈ tables_1, d.before a0 Z = true) (ws : List Jvm.Cond) (a1 : Addr) (a2 : Addr) (ki : ClassId) (x0 : Int32) (x1 : Int32) (sm : Int64) (h0 : Heap) (n0 : Nat) (Z0 : n0 ≤ h0.size) (pF_lengths_a1 : Fld Z h0 a1 "com/example/descriptor/descriptor/engine/index/InvertedField" "lengths" "[I" (.ref a2)) (pF_totalLength_a1 : Fld Z h0 a1 "com/example/descriptor/descriptor/engine/index/InvertedField" "totalLength" "J" (.long sm)) (pV_a2 : Arv Z h0 a2 ki .int (2 : Int32) [(.int x0), (.int x1)] (.int (0 : Int32))) (hs : (sm.toInt.natAbs ≤ 2 ^ 53)) :
    MetFree l (⟨"com/example/descriptor/descriptor/engine/index/InvertedField", "averageLength", "()D"⟩ : MethodName) (head1 (Jvm.Cond.code (⟨"com/example/descriptor/descriptor/engine/index/InvertedField", "averageLength", "()D"⟩ : MethodName) prog_17_method_5_code 1 (some .double) :: ws) ({ frames := 0, cells := 0, slots := 0, locals := 0 } : Room)) (fun a U => a = #[(.ref a1)] ∧ Z.Warmed39 U.vm ∧ U.heap = h0) (fun _ _ _ _ _ => True) (fun _ U o U' => ∃ v L, o = .returned v ∧ Q_rmAv2 Z a1 a2 ki x0 x1 sm h0 n0 v U'.heap L ∧ FrameEnd U o U' L ({ frames := 0, cells := 0, slots := 0, locals := 0 } : Room).cells ({ frames := 0, cells := 0, slots := 0, locals := 0 } : Room).slots) := by
  refine MetFree.of_bodySF (plainFor_of_name pn_3) hisR ?_
  intro p e s m args below meth c s₁ Bd hml0 hP hK
  obtain ⟨rfl, hZ, hh⟩ := hP
  have hx := Bd.exec
  have hby := Bd.bytes
  have hml : c.maxLocals = 1 := hml0
  have hown : s.vm.findClass "com/example/descriptor/descriptor/engine/index/InvertedField" = some m.cls := findClass_of_methodNamed Bd.named
  have hnm := (name_of_methodNamed Bd.named Bd.method).1
  have X0 : Stand p l e ({ frames := 0, cells := 0, slots := 0, locals := 0 } : Room) s m #[(.ref a1)] below meth c s₁ [] 0 0 := Stand.of_body Bd
  have e0 : s₁.heap = h0 := by rw [← hh, Bd.state]; rfl
  have N0 := Fr.nil n0
  refine own_enter (ef_rmAv2 m a1) ?_
  refine own_st (fun t_ k_ => XS.aloadN X0.here hx rfl (hb hby d3_0) rfl rfl k_) ?_
  show own_Go p e below s₁ (mkF m 1 #[.val (.ref a1)] [(.ref a1)]) _
  obtain ⟨T1, X1, e1, st1⟩ := getF X0 hx hZ hown (host := "") (Or.inl (hw _ (List.mem_of_getElem? (i := 10) rfl))) Via.refl e0 pF_lengths_a1 (g := (mkF m 1 #[.val (.ref a1)] [(.ref a1)])) rfl rfl (hb hby d3_1)
  refine own_st st1 ?_
  show own_Go p e below T1 (mkF m 4 #[.val (.ref a1)] [(.ref a2)]) _
  obtain ⟨cl2, Ar2, q2, Sz2, Nn2, Hh2, Gg2⟩ := id pV_a2
  refine own_st (fun t_ k_ => X1.arraylength hx (by rw [e1]; exact Ar2.1) (State.isArrayOf_alike hZ.alike Ar2.2.1) (g := (mkF m 4 #[.val (.ref a1)] [(.ref a2)])) rfl rfl (hb hby d3_4) _ k_) ?_
  rw [len_of Sz2 Nn2]
  show own_Go p e below T1 (mkF m 5 #[.val (.ref a1)] [(.int (2 : Int32))]) _
  refine own_st (fun t_ k_ => XS.ifYes X1.here hx rfl (pc0 := 5) (pc' := 12) rfl (hb hby d3_5) rfl (by decide) (by decide) (by decide) k_) ?_
  show own_Go p e below T1 (mkF m 12 #[.val (.ref a1)] []) _
  refine own_st (fun t_ k_ => XS.aloadN X1.here hx rfl (hb hby d3_12) rfl rfl k_) ?_
  show own_Go p e below T1 (mkF m 13 #[.val (.ref a1)] [(.ref a1)]) _
  obtain ⟨T3, X3, e3, st3⟩ := getF X1 hx hZ hown (host := "") (Or.inl (hw _ (List.mem_of_getElem? (i := 14) rfl))) Via.refl e1 pF_totalLength_a1 (g := (mkF m 13 #[.val (.ref a1)] [(.ref a1)])) rfl rfl (hb hby d3_13)
  refine own_st st3 ?_
  show own_Go p e below T3 (mkF m 16 #[.val (.ref a1)] [(.long sm)]) _
  refine own_st (fun t_ k_ => XS.l2dS X3.here hx rfl (hb hby d3_16) rfl rfl k_) ?_
  show own_Go p e below T3 (mkF m 17 #[.val (.ref a1)] [(.double (FP.l2d sm))]) _
  refine own_st (fun t_ k_ => XS.aloadN X3.here hx rfl (hb hby d3_17) rfl rfl k_) ?_
  show own_Go p e below T3 (mkF m 18 #[.val (.ref a1)] [(.ref a1), (.double (FP.l2d sm))]) _
  obtain ⟨T4, X4, e4, st4⟩ := getF X3 hx hZ hown (host := "") (Or.inl (hw _ (List.mem_of_getElem? (i := 10) rfl))) Via.refl e3 pF_lengths_a1 (g := (mkF m 18 #[.val (.ref a1)] [(.ref a1), (.double (FP.l2d sm))])) rfl rfl (hb hby d3_18)
  refine own_st st4 ?_
  show own_Go p e below T4 (mkF m 21 #[.val (.ref a1)] [(.ref a2), (.double (FP.l2d sm))]) _
  obtain ⟨cl5, Ar5, q5, Sz5, Nn5, Hh5, Gg5⟩ := id pV_a2
  refine own_st (fun t_ k_ => X4.arraylength hx (by rw [e4]; exact Ar5.1) (State.isArrayOf_alike hZ.alike Ar5.2.1) (g := (mkF m 21 #[.val (.ref a1)] [(.ref a2), (.double (FP.l2d sm))])) rfl rfl (hb hby d3_21) _ k_) ?_
  rw [len_of Sz5 Nn5]
  show own_Go p e below T4 (mkF m 22 #[.val (.ref a1)] [(.int (2 : Int32)), (.double (FP.l2d sm))]) _
  refine own_st (fun t_ k_ => XS.i2dS X4.here hx rfl (hb hby d3_22) rfl rfl k_) ?_
  show own_Go p e below T4 (mkF m 23 #[.val (.ref a1)] [(.double (FP.i2d (2 : Int32))), (.double (FP.l2d sm))]) _
  refine own_st (fun t_ k_ => XS.ddivS X4.here hx rfl (hb hby d3_23) rfl (own_avg_facts hs (by decide) (by decide)).1 rfl k_) ?_
  show own_Go p e below T4 (mkF m 24 #[.val (.ref a1)] [(.double (FP.ddiv (FP.l2d sm) (FP.i2d (2 : Int32))))]) _
  show own_Go p e below T4 (mkF m 24 #[.val (.ref a1)] [(.double (own_avg sm (2 : Int32)))]) _
  obtain ⟨fs, hr, hrun, hended, hW, hsame⟩ := X4.leave (v := some (.double (own_avg sm (2 : Int32)))) (fun h => by rw [Bd.returns] at h; cases h)
  refine own_fin (own_retD X4 hx Bd.returns (hb hby d3_24) hr) ⟨hrun, hended, _, _, rfl, ?_, ⟨_, rfl⟩, hW, hsame.mono (by decide) (by decide)⟩
  show Q_rmAv2 Z a1 a2 ki x0 x1 sm h0 n0 _ T4.heap _
  rw [e4]
  exact ⟨rfl, N0, rfl⟩
theorem ef_rmIn3 (m : MethodId) (x0 : Addr) (x1 : Addr) : entryFrame m #[(.ref x0), (.ref x1), .null] 9 = mkF m 0 #[.val (.ref x0), .val (.ref x1), .val .null, .unset, .unset, .unset, .unset, .unset, .unset] [] := by first | (simp [entryFrame, mkF, argsToLocals, Value.category]; done) | rfl
def Q_rmIn3 (Z : State) (a1 : Addr) (a2 : Addr) (ki : ClassId) (x0 : Int32) (x1 : Int32) (x2 : Int32) (u1 : Value) (u2 : Value) (u3 : Value) (h0 : Heap) (n0 : Nat) (v : Option Value) (h : Heap) (L : List Loc) : Prop := v = none ∧ Fr n0 L ∧ Keep h0 h [a1] ∧ Exa Z h a1 "com/example/descriptor/descriptor/engine/index/InvertedField" ∧ Fld Z h a1 "com/example/descriptor/descriptor/engine/index/InvertedField" "lengths" "[I" (.ref a2) ∧ Fld Z h a1 "com/example/descriptor/descriptor/engine/index/InvertedField" "totalLength" "J" (.long ((((0 : Int64) + (x0.toInt64)) + (x1.toInt64)) + (x2.toInt64))) ∧ Arv Z h a2 ki .int (3 : Int32) [(.int x0), (.int x1), (.int x2)] (.int (0 : Int32))
set_option maxRecDepth 65536 in
set_option maxHeartbeats 40000000 in
theorem rmIn3 (l : Launch) (Z : State) (a0 : Array Value) (hw : ∀ d ∈ tables_1, d.before a0 Z = true) (ws : List Jvm.Cond) (a1 : Addr) (a2 : Addr) (ki : ClassId) (x0 : Int32) (x1 : Int32) (x2 : Int32) (u1 : Value) (u2 : Value) (u3 : Value) (h0 : Heap) (n0 : Nat) (Z0 : n0 ≤ h0.size) (pE_a1 : Exa Z h0 a1 "com/example/descriptor/descriptor/engine/index/InvertedField") (pF_lengths_a1 : Fld Z h0 a1 "com/example/descriptor/descriptor/engine/index/InvertedField" "lengths" "[I" u1) (pF_postings_a1 : Fld Z h0 a1 "com/example/descriptor/descriptor/engine/index/InvertedField" "postings" "Ljava/util/Map;" u2) (pF_totalLength_a1 : Fld Z h0 a1 "com/example/descriptor/descriptor/engine/index/InvertedField" "totalLength" "J" u3) (pG_a1 : n0 ≤ a1) (pV_a2 : Arv Z h0 a2 ki .int (3 : Int32) [(.int x0), (.int x1), (.int x2)] (.int (0 : Int32))) :
    MetFree l (⟨"com/example/descriptor/descriptor/engine/index/InvertedField", "<init>", "([ILjava/util/Map;)V"⟩ : MethodName) (head1 (Jvm.Cond.code (⟨"com/example/descriptor/descriptor/engine/index/InvertedField", "<init>", "([ILjava/util/Map;)V"⟩ : MethodName) prog_17_method_1_code 9 none :: ws) ({ frames := 1, cells := 0, slots := 0, locals := 12 } : Room)) (fun a U => a = #[(.ref a1), (.ref a2), .null] ∧ Z.Warmed39 U.vm ∧ U.heap = h0) (fun _ _ _ _ _ => True) (fun _ U o U' => ∃ v L, o = .returned v ∧ Q_rmIn3 Z a1 a2 ki x0 x1 x2 u1 u2 u3 h0 n0 v U'.heap L ∧ FrameEnd U o U' L ({ frames := 1, cells := 0, slots := 0, locals := 12 } : Room).cells ({ frames := 1, cells := 0, slots := 0, locals := 12 } : Room).slots) := by
  refine MetFree.of_bodySF (plainFor_of_name pn_1) hisR ?_
  intro p e s m args below meth c s₁ Bd hml0 hP hK
  obtain ⟨rfl, hZ, hh⟩ := hP
  have hx := Bd.exec
  have hby := Bd.bytes
  have hml : c.maxLocals = 9 := hml0
  have hown : s.vm.findClass "com/example/descriptor/descriptor/engine/index/InvertedField" = some m.cls := findClass_of_methodNamed Bd.named
  have hnm := (name_of_methodNamed Bd.named Bd.method).1
  have X0 : Stand p l e ({ frames := 1, cells := 0, slots := 0, locals := 12 } : Room) s m #[(.ref a1), (.ref a2), .null] below meth c s₁ [] 0 0 := Stand.of_body Bd
  have e0 : s₁.heap = h0 := by rw [← hh, Bd.state]; rfl
  have N0 := Fr.nil n0
  refine own_enter (ef_rmIn3 m a1 a2) ?_
  refine own_st (fun t_ k_ => XS.aloadN X0.here hx rfl (hb hby d1_0) rfl rfl k_) ?_
  show own_Go p e below s₁ (mkF m 1 #[.val (.ref a1), .val (.ref a2), .val .null, .unset, .unset, .unset, .unset, .unset, .unset] [(.ref a1)]) _
  obtain ⟨T1, X1, e1, st1⟩ := initO X0 hx hZ hown (hw _ (List.mem_of_getElem? (i := 7) rfl)) (hw _ (List.mem_of_getElem? (i := 8) rfl)) (hw _ (List.mem_of_getElem? (i := 9) rfl)) e0 (g := (mkF m 1 #[.val (.ref a1), .val (.ref a2), .val .null, .unset, .unset, .unset, .unset, .unset, .unset] [(.ref a1)])) rfl (by rw [hml]; rfl) rfl (hb hby d1_1) (by decide) (W := 0) (by show 2 * 0 + _ ≤ _; exact Nat.le_of_eq rfl) (by decide)
  refine own_st st1 ?_
  show own_Go p e below T1 (mkF m 4 #[.val (.ref a1), .val (.ref a2), .val .null, .unset, .unset, .unset, .unset, .unset, .unset] []) _
  refine own_st (fun t_ k_ => XS.aloadN X1.here hx rfl (hb hby d1_4) rfl rfl k_) ?_
  show own_Go p e below T1 (mkF m 5 #[.val (.ref a1), .val (.ref a2), .val .null, .unset, .unset, .unset, .unset, .unset, .unset] [(.ref a1)]) _
  refine own_st (fun t_ k_ => XS.aloadN X1.here hx rfl (hb hby d1_5) rfl rfl k_) ?_
  show own_Go p e below T1 (mkF m 6 #[.val (.ref a1), .val (.ref a2), .val .null, .unset, .unset, .unset, .unset, .unset, .unset] [(.ref a2), (.ref a1)]) _
  obtain ⟨T2, h2, X2, e2, W2, st2⟩ := putF X1 hx hZ hown (host := "") (Or.inl (hw _ (List.mem_of_getElem? (i := 10) rfl))) Via.refl e1 pF_lengths_a1 pE_a1 (Or.inr ⟨(hw _ (List.mem_of_getElem? (i := 11) rfl)), rfl, hnm⟩) (hw _ (List.mem_of_getElem? (i := 2) rfl)) (ty := (.array .int)) (by decide) rfl rfl (g := (mkF m 6 #[.val (.ref a1), .val (.ref a2), .val .null, .unset, .unset, .unset, .unset, .unset, .unset] [(.ref a2), (.ref a1)])) rfl rfl (hb hby d1_6)
  have F2 := pF_lengths_a1.same W2
  have K3 : Keep h0 h2 [a1] := (Keep.refl h0 [a1]).wr W2 (Or.inl (List.mem_of_getElem? (i := 0) rfl))
  have N2 := Fr.snoc X2 N0 pG_a1
  refine own_st st2 ?_
  show own_Go p e below T2 (mkF m 9 #[.val (.ref a1), .val (.ref a2), .val .null, .unset, .unset, .unset, .unset, .unset, .unset] []) _
  refine own_st (fun t_ k_ => XS.aloadN X2.here hx rfl (hb hby d1_9) rfl rfl k_) ?_
  show own_Go p e below T2 (mkF m 10 #[.val (.ref a1), .val (.ref a2), .val .null, .unset, .unset, .unset, .unset, .unset, .unset] [(.ref a1)]) _
  refine own_st (fun t_ k_ => XS.aloadN X2.here hx rfl (hb hby d1_10) rfl rfl k_) ?_
  show own_Go p e below T2 (mkF m 11 #[.val (.ref a1), .val (.ref a2), .val .null, .unset, .unset, .unset, .unset, .unset, .unset] [.null, (.ref a1)]) _
  have f4 := (pE_a1.wr W2)
  have f5 := (pF_postings_a1.other W2 (Or.inr (slot_ne (Or.inr (hw _ (List.mem_of_getElem? (i := 13) rfl))) (Or.inr (hw _ (List.mem_of_getElem? (i := 11) rfl))) (by decide) (t := (.object "java/util/Map")) (t' := (.array .int)) (by decide) (by decide))))
  obtain ⟨T6, h6, X6, e6, W6, st6⟩ := putF X2 hx hZ hown (host := "") (Or.inl (hw _ (List.mem_of_getElem? (i := 12) rfl))) Via.refl e2 f5 f4 (Or.inr ⟨(hw _ (List.mem_of_getElem? (i := 13) rfl)), rfl, hnm⟩) (hw _ (List.mem_of_getElem? (i := 2) rfl)) (ty := (.object "java/util/Map")) (by decide) rfl rfl (g := (mkF m 11 #[.val (.ref a1), .val (.ref a2), .val .null, .unset, .unset, .unset, .unset, .unset, .unset] [.null, (.ref a1)])) rfl rfl (hb hby d1_11)
  have F6 := f5.same W6
  have K7 : Keep h0 h6 [a1] := K3.wr W6 (Or.inl (List.mem_of_getElem? (i := 0) rfl))
  have N6 := Fr.snoc X6 N2 pG_a1
  refine own_st st6 ?_
  show own_Go p e below T6 (mkF m 14 #[.val (.ref a1), .val (.ref a2), .val .null, .unset, .unset, .unset, .unset, .unset, .unset] []) _
  refine own_st (fun t_ k_ => XS.lconst X6.here hx rfl (hb hby d1_14) k_) ?_
  show own_Go p e below T6 (mkF m 15 #[.val (.ref a1), .val (.ref a2), .val .null, .unset, .unset, .unset, .unset, .unset, .unset] [(.long (0 : Int64))]) _
  refine own_st (fun t_ k_ => XS.lstoreN X6.here hx rfl (hb hby d1_15) rfl (l' := #[.val (.ref a1), .val (.ref a2), .val .null, .val (.long (0 : Int64)), .second, .unset, .unset, .unset, .unset]) rfl k_) ?_
  show own_Go p e below T6 (mkF m 16 #[.val (.ref a1), .val (.ref a2), .val .null, .val (.long (0 : Int64)), .second, .unset, .unset, .unset, .unset] []) _
  refine own_st (fun t_ k_ => XS.aloadN X6.here hx rfl (hb hby d1_16) rfl rfl k_) ?_
  show own_Go p e below T6 (mkF m 17 #[.val (.ref a1), .val (.ref a2), .val .null, .val (.long (0 : Int64)), .second, .unset, .unset, .unset, .unset] [(.ref a2)]) _
  refine own_st (fun t_ k_ => XS.astore X6.here hx rfl (hb hby d1_17) rfl rfl (l' := #[.val (.ref a1), .val (.ref a2), .val .null, .val (.long (0 : Int64)), .second, .val (.ref a2), .unset, .unset, .unset]) rfl k_) ?_
  show own_Go p e below T6 (mkF m 19 #[.val (.ref a1), .val (.ref a2), .val .null, .val (.long (0 : Int64)), .second, .val (.ref a2), .unset, .unset, .unset] []) _
  refine own_st (fun t_ k_ => XS.aload X6.here hx rfl (hb hby d1_19) rfl rfl k_) ?_
  show own_Go p e below T6 (mkF m 21 #[.val (.ref a1), .val (.ref a2), .val .null, .val (.long (0 : Int64)), .second, .val (.ref a2), .unset, .unset, .unset] [(.ref a2)]) _
  have f8 := ((pV_a2.other W2 (Ne.symm (Exa.neArv pE_a1 pV_a2 (hw _ (List.mem_of_getElem? (i := 2) rfl))))).other W6 (Ne.symm (Exa.neArv pE_a1 pV_a2 (hw _ (List.mem_of_getElem? (i := 2) rfl)))))
  obtain ⟨cl9, Ar9, q9, Sz9, Nn9, Hh9, Gg9⟩ := id f8
  refine own_st (fun t_ k_ => X6.arraylength hx (by rw [e6]; exact Ar9.1) (State.isArrayOf_alike hZ.alike Ar9.2.1) (g := (mkF m 21 #[.val (.ref a1), .val (.ref a2), .val .null, .val (.long (0 : Int64)), .second, .val (.ref a2), .unset, .unset, .unset] [(.ref a2)])) rfl rfl (hb hby d1_21) _ k_) ?_
  rw [len_of Sz9 Nn9]
  show own_Go p e below T6 (mkF m 22 #[.val (.ref a1), .val (.ref a2), .val .null, .val (.long (0 : Int64)), .second, .val (.ref a2), .unset, .unset, .unset] [(.int (3 : Int32))]) _
  refine own_st (fun t_ k_ => XS.istore X6.here hx rfl (hb hby d1_22) rfl (l' := #[.val (.ref a1), .val (.ref a2), .val .null, .val (.long (0 : Int64)), .second, .val (.ref a2), .val (.int (3 : Int32)), .unset, .unset]) rfl k_) ?_
  show own_Go p e below T6 (mkF m 24 #[.val (.ref a1), .val (.ref a2), .val .null, .val (.long (0 : Int64)), .second, .val (.ref a2), .val (.int (3 : Int32)), .unset, .unset] []) _
  refine own_st (fun t_ k_ => XS.iconst X6.here hx rfl (hb hby d1_24) k_) ?_
  show own_Go p e below T6 (mkF m 25 #[.val (.ref a1), .val (.ref a2), .val .null, .val (.long (0 : Int64)), .second, .val (.ref a2), .val (.int (3 : Int32)), .unset, .unset] [(.int (0 : Int32))]) _
  refine own_st (fun t_ k_ => XS.istore X6.here hx rfl (hb hby d1_25) rfl (l' := #[.val (.ref a1), .val (.ref a2), .val .null, .val (.long (0 : Int64)), .second, .val (.ref a2), .val (.int (3 : Int32)), .val (.int (0 : Int32)), .unset]) rfl k_) ?_
  show own_Go p e below T6 (mkF m 27 #[.val (.ref a1), .val (.ref a2), .val .null, .val (.long (0 : Int64)), .second, .val (.ref a2), .val (.int (3 : Int32)), .val (.int (0 : Int32)), .unset] []) _
  refine own_st (fun t_ k_ => XS.iload X6.here hx rfl (hb hby d1_27) rfl k_) ?_
  show own_Go p e below T6 (mkF m 29 #[.val (.ref a1), .val (.ref a2), .val .null, .val (.long (0 : Int64)), .second, .val (.ref a2), .val (.int (3 : Int32)), .val (.int (0 : Int32)), .unset] [(.int (0 : Int32))]) _
  refine own_st (fun t_ k_ => XS.iload X6.here hx rfl (hb hby d1_29) rfl k_) ?_
  show own_Go p e below T6 (mkF m 31 #[.val (.ref a1), .val (.ref a2), .val .null, .val (.long (0 : Int64)), .second, .val (.ref a2), .val (.int (3 : Int32)), .val (.int (0 : Int32)), .unset] [(.int (3 : Int32)), (.int (0 : Int32))]) _
  refine own_st (fun t_ k_ => XS.icmpNo X6.here hx rfl (hb hby d1_31) rfl (by decide) k_) ?_
  show own_Go p e below T6 (mkF m 34 #[.val (.ref a1), .val (.ref a2), .val .null, .val (.long (0 : Int64)), .second, .val (.ref a2), .val (.int (3 : Int32)), .val (.int (0 : Int32)), .unset] []) _
  refine own_st (fun t_ k_ => XS.aload X6.here hx rfl (hb hby d1_34) rfl rfl k_) ?_
  show own_Go p e below T6 (mkF m 36 #[.val (.ref a1), .val (.ref a2), .val .null, .val (.long (0 : Int64)), .second, .val (.ref a2), .val (.int (3 : Int32)), .val (.int (0 : Int32)), .unset] [(.ref a2)]) _
  refine own_st (fun t_ k_ => XS.iload X6.here hx rfl (hb hby d1_36) rfl k_) ?_
  show own_Go p e below T6 (mkF m 38 #[.val (.ref a1), .val (.ref a2), .val .null, .val (.long (0 : Int64)), .second, .val (.ref a2), .val (.int (3 : Int32)), .val (.int (0 : Int32)), .unset] [(.int (0 : Int32)), (.ref a2)]) _
  obtain ⟨cl10, Ar10, q10, Sz10, Nn10, Hh10, Gg10⟩ := id f8
  have hin10 : ¬ ((0 : Int32) < 0 ∨ cl10.slots.size ≤ ((0 : Int32)).toNatClampNeg) := inb_of Sz10 ⟨by decide, by decide⟩
  have hat10 : cl10.slots[((0 : Int32)).toNatClampNeg]? = some (.int x0) := Has.at Hh10 hin10 rfl
  refine own_st (fun t_ k_ => X6.iaload hx (j := (0 : Int32)) (v := (.int x0)) (by rw [e6]; exact Ar10.1) (State.isArrayOf_alike hZ.alike Ar10.2.1) Ar10.2.2 hin10 hat10 (g := (mkF m 38 #[.val (.ref a1), .val (.ref a2), .val .null, .val (.long (0 : Int64)), .second, .val (.ref a2), .val (.int (3 : Int32)), .val (.int (0 : Int32)), .unset] [(.int (0 : Int32)), (.ref a2)])) rfl rfl (hb hby d1_38) _ k_) ?_
  show own_Go p e below T6 (mkF m 39 #[.val (.ref a1), .val (.ref a2), .val .null, .val (.long (0 : Int64)), .second, .val (.ref a2), .val (.int (3 : Int32)), .val (.int (0 : Int32)), .unset] [(.int x0)]) _
  refine own_st (fun t_ k_ => XS.istore X6.here hx rfl (hb hby d1_39) rfl (l' := #[.val (.ref a1), .val (.ref a2), .val .null, .val (.long (0 : Int64)), .second, .val (.ref a2), .val (.int (3 : Int32)), .val (.int (0 : Int32)), .val (.int x0)]) rfl k_) ?_
  show own_Go p e below T6 (mkF m 41 #[.val (.ref a1), .val (.ref a2), .val .null, .val (.long (0 : Int64)), .second, .val (.ref a2), .val (.int (3 : Int32)), .val (.int (0 : Int32)), .val (.int x0)] []) _
  refine own_st (fun t_ k_ => XS.lloadN X6.here hx rfl (hb hby d1_41) rfl k_) ?_
  show own_Go p e below T6 (mkF m 42 #[.val (.ref a1), .val (.ref a2), .val .null, .val (.long (0 : Int64)), .second, .val (.ref a2), .val (.int (3 : Int32)), .val (.int (0 : Int32)), .val (.int x0)] [(.long (0 : Int64))]) _
  refine own_st (fun t_ k_ => XS.iload X6.here hx rfl (hb hby d1_42) rfl k_) ?_
  show own_Go p e below T6 (mkF m 44 #[.val (.ref a1), .val (.ref a2), .val .null, .val (.long (0 : Int64)), .second, .val (.ref a2), .val (.int (3 : Int32)), .val (.int (0 : Int32)), .val (.int x0)] [(.int x0), (.long (0 : Int64))]) _
  refine own_st (fun t_ k_ => XS.i2l X6.here hx rfl (hb hby d1_44) rfl k_) ?_
  show own_Go p e below T6 (mkF m 45 #[.val (.ref a1), .val (.ref a2), .val .null, .val (.long (0 : Int64)), .second, .val (.ref a2), .val (.int (3 : Int32)), .val (.int (0 : Int32)), .val (.int x0)] [(.long (x0.toInt64)), (.long (0 : Int64))]) _
  refine own_st (fun t_ k_ => XS.ladd X6.here hx rfl (hb hby d1_45) rfl k_) ?_
  show own_Go p e below T6 (mkF m 46 #[.val (.ref a1), .val (.ref a2), .val .null, .val (.long (0 : Int64)), .second, .val (.ref a2), .val (.int (3 : Int32)), .val (.int (0 : Int32)), .val (.int x0)] [(.long ((0 : Int64) + (x0.toInt64)))]) _
  refine own_st (fun t_ k_ => XS.lstoreN X6.here hx rfl (hb hby d1_46) rfl (l' := #[.val (.ref a1), .val (.ref a2), .val .null, .val (.long ((0 : Int64) + (x0.toInt64))), .second, .val (.ref a2), .val (.int (3 : Int32)), .val (.int (0 : Int32)), .val (.int x0)]) rfl k_) ?_
  show own_Go p e below T6 (mkF m 47 #[.val (.ref a1), .val (.ref a2), .val .null, .val (.long ((0 : Int64) + (x0.toInt64))), .second, .val (.ref a2), .val (.int (3 : Int32)), .val (.int (0 : Int32)), .val (.int x0)] []) _
  refine own_st (fun t_ k_ => XS.iinc X6.here hx rfl (hb hby d1_47) rfl (l' := #[.val (.ref a1), .val (.ref a2), .val .null, .val (.long ((0 : Int64) + (x0.toInt64))), .second, .val (.ref a2), .val (.int (3 : Int32)), .val (.int (1 : Int32)), .val (.int x0)]) rfl k_) ?_
  show own_Go p e below T6 (mkF m 50 #[.val (.ref a1), .val (.ref a2), .val .null, .val (.long ((0 : Int64) + (x0.toInt64))), .second, .val (.ref a2), .val (.int (3 : Int32)), .val (.int (1 : Int32)), .val (.int x0)] []) _
  refine own_st (fun t_ k_ => XS.goto X6.here hx rfl (pc0 := 50) (pc' := 27) rfl (hb hby d1_50) (by decide) (by decide) k_) ?_
  show own_Go p e below T6 (mkF m 27 #[.val (.ref a1), .val (.ref a2), .val .null, .val (.long ((0 : Int64) + (x0.toInt64))), .second, .val (.ref a2), .val (.int (3 : Int32)), .val (.int (1 : Int32)), .val (.int x0)] []) _
  refine own_st (fun t_ k_ => XS.iload X6.here hx rfl (hb hby d1_27) rfl k_) ?_
  show own_Go p e below T6 (mkF m 29 #[.val (.ref a1), .val (.ref a2), .val .null, .val (.long ((0 : Int64) + (x0.toInt64))), .second, .val (.ref a2), .val (.int (3 : Int32)), .val (.int (1 : Int32)), .val (.int x0)] [(.int (1 : Int32))]) _
  refine own_st (fun t_ k_ => XS.iload X6.here hx rfl (hb hby d1_29) rfl k_) ?_
  show own_Go p e below T6 (mkF m 31 #[.val (.ref a1), .val (.ref a2), .val .null, .val (.long ((0 : Int64) + (x0.toInt64))), .second, .val (.ref a2), .val (.int (3 : Int32)), .val (.int (1 : Int32)), .val (.int x0)] [(.int (3 : Int32)), (.int (1 : Int32))]) _
  refine own_st (fun t_ k_ => XS.icmpNo X6.here hx rfl (hb hby d1_31) rfl (by decide) k_) ?_
  show own_Go p e below T6 (mkF m 34 #[.val (.ref a1), .val (.ref a2), .val .null, .val (.long ((0 : Int64) + (x0.toInt64))), .second, .val (.ref a2), .val (.int (3 : Int32)), .val (.int (1 : Int32)), .val (.int x0)] []) _
  refine own_st (fun t_ k_ => XS.aload X6.here hx rfl (hb hby d1_34) rfl rfl k_) ?_
  show own_Go p e below T6 (mkF m 36 #[.val (.ref a1), .val (.ref a2), .val .null, .val (.long ((0 : Int64) + (x0.toInt64))), .second, .val (.ref a2), .val (.int (3 : Int32)), .val (.int (1 : Int32)), .val (.int x0)] [(.ref a2)]) _
  refine own_st (fun t_ k_ => XS.iload X6.here hx rfl (hb hby d1_36) rfl k_) ?_
  show own_Go p e below T6 (mkF m 38 #[.val (.ref a1), .val (.ref a2), .val .null, .val (.long ((0 : Int64) + (x0.toInt64))), .second, .val (.ref a2), .val (.int (3 : Int32)), .val (.int (1 : Int32)), .val (.int x0)] [(.int (1 : Int32)), (.ref a2)]) _
  obtain ⟨cl11, Ar11, q11, Sz11, Nn11, Hh11, Gg11⟩ := id f8
  have hin11 : ¬ ((1 : Int32) < 0 ∨ cl11.slots.size ≤ ((1 : Int32)).toNatClampNeg) := inb_of Sz11 ⟨by decide, by decide⟩
  have hat11 : cl11.slots[((1 : Int32)).toNatClampNeg]? = some (.int x1) := Has.at Hh11 hin11 rfl
  refine own_st (fun t_ k_ => X6.iaload hx (j := (1 : Int32)) (v := (.int x1)) (by rw [e6]; exact Ar11.1) (State.isArrayOf_alike hZ.alike Ar11.2.1) Ar11.2.2 hin11 hat11 (g := (mkF m 38 #[.val (.ref a1), .val (.ref a2), .val .null, .val (.long ((0 : Int64) + (x0.toInt64))), .second, .val (.ref a2), .val (.int (3 : Int32)), .val (.int (1 : Int32)), .val (.int x0)] [(.int (1 : Int32)), (.ref a2)])) rfl rfl (hb hby d1_38) _ k_) ?_
  show own_Go p e below T6 (mkF m 39 #[.val (.ref a1), .val (.ref a2), .val .null, .val (.long ((0 : Int64) + (x0.toInt64))), .second, .val (.ref a2), .val (.int (3 : Int32)), .val (.int (1 : Int32)), .val (.int x0)] [(.int x1)]) _
  refine own_st (fun t_ k_ => XS.istore X6.here hx rfl (hb hby d1_39) rfl (l' := #[.val (.ref a1), .val (.ref a2), .val .null, .val (.long ((0 : Int64) + (x0.toInt64))), .second, .val (.ref a2), .val (.int (3 : Int32)), .val (.int (1 : Int32)), .val (.int x1)]) rfl k_) ?_
  show own_Go p e below T6 (mkF m 41 #[.val (.ref a1), .val (.ref a2), .val .null, .val (.long ((0 : Int64) + (x0.toInt64))), .second, .val (.ref a2), .val (.int (3 : Int32)), .val (.int (1 : Int32)), .val (.int x1)] []) _
  refine own_st (fun t_ k_ => XS.lloadN X6.here hx rfl (hb hby d1_41) rfl k_) ?_
  show own_Go p e below T6 (mkF m 42 #[.val (.ref a1), .val (.ref a2), .val .null, .val (.long ((0 : Int64) + (x0.toInt64))), .second, .val (.ref a2), .val (.int (3 : Int32)), .val (.int (1 : Int32)), .val (.int x1)] [(.long ((0 : Int64) + (x0.toInt64)))]) _
  refine own_st (fun t_ k_ => XS.iload X6.here hx rfl (hb hby d1_42) rfl k_) ?_
  show own_Go p e below T6 (mkF m 44 #[.val (.ref a1), .val (.ref a2), .val .null, .val (.long ((0 : Int64) + (x0.toInt64))), .second, .val (.ref a2), .val (.int (3 : Int32)), .val (.int (1 : Int32)), .val (.int x1)] [(.int x1), (.long ((0 : Int64) + (x0.toInt64)))]) _
  refine own_st (fun t_ k_ => XS.i2l X6.here hx rfl (hb hby d1_44) rfl k_) ?_
  show own_Go p e below T6 (mkF m 45 #[.val (.ref a1), .val (.ref a2), .val .null, .val (.long ((0 : Int64) + (x0.toInt64))), .second, .val (.ref a2), .val (.int (3 : Int32)), .val (.int (1 : Int32)), .val (.int x1)] [(.long (x1.toInt64)), (.long ((0 : Int64) + (x0.toInt64)))]) _
  refine own_st (fun t_ k_ => XS.ladd X6.here hx rfl (hb hby d1_45) rfl k_) ?_
  show own_Go p e below T6 (mkF m 46 #[.val (.ref a1), .val (.ref a2), .val .null, .val (.long ((0 : Int64) + (x0.toInt64))), .second, .val (.ref a2), .val (.int (3 : Int32)), .val (.int (1 : Int32)), .val (.int x1)] [(.long (((0 : Int64) + (x0.toInt64)) + (x1.toInt64)))]) _
  refine own_st (fun t_ k_ => XS.lstoreN X6.here hx rfl (hb hby d1_46) rfl (l' := #[.val (.ref a1), .val (.ref a2), .val .null, .val (.long (((0 : Int64) + (x0.toInt64)) + (x1.toInt64))), .second, .val (.ref a2), .val (.int (3 : Int32)), .val (.int (1 : Int32)), .val (.int x1)]) rfl k_) ?_
  show own_Go p e below T6 (mkF m 47 #[.val (.ref a1), .val (.ref a2), .val .null, .val (.long (((0 : Int64) + (x0.toInt64)) + (x1.toInt64))), .second, .val (.ref a2), .val (.int (3 : Int32)), .val (.int (1 : Int32)), .val (.int x1)] []) _
  refine own_st (fun t_ k_ => XS.iinc X6.here hx rfl (hb hby d1_47) rfl (l' := #[.val (.ref a1), .val (.ref a2), .val .null, .val (.long (((0 : Int64) + (x0.toInt64)) + (x1.toInt64))), .second, .val (.ref a2), .val (.int (3 : Int32)), .val (.int (2 : Int32)), .val (.int x1)]) rfl k_) ?_
  show own_Go p e below T6 (mkF m 50 #[.val (.ref a1), .val (.ref a2), .val .null, .val (.long (((0 : Int64) + (x0.toInt64)) + (x1.toInt64))), .second, .val (.ref a2), .val (.int (3 : Int32)), .val (.int (2 : Int32)), .val (.int x1)] []) _
  refine own_st (fun t_ k_ => XS.goto X6.here hx rfl (pc0 := 50) (pc' := 27) rfl (hb hby d1_50) (by decide) (by decide) k_) ?_
  show own_Go p e below T6 (mkF m 27 #[.val (.ref a1), .val (.ref a2), .val .null, .val (.long (((0 : Int64) + (x0.toInt64)) + (x1.toInt64))), .second, .val (.ref a2), .val (.int (3 : Int32)), .val (.int (2 : Int32)), .val (.int x1)] []) _
  refine own_st (fun t_ k_ => XS.iload X6.here hx rfl (hb hby d1_27) rfl k_) ?_
  show own_Go p e below T6 (mkF m 29 #[.val (.ref a1), .val (.ref a2), .val .null, .val (.long (((0 : Int64) + (x0.toInt64)) + (x1.toInt64))), .second, .val (.ref a2), .val (.int (3 : Int32)), .val (.int (2 : Int32)), .val (.int x1)] [(.int (2 : Int32))]) _
  refine own_st (fun t_ k_ => XS.iload X6.here hx rfl (hb hby d1_29) rfl k_) ?_
  show own_Go p e below T6 (mkF m 31 #[.val (.ref a1), .val (.ref a2), .val .null, .val (.long (((0 : Int64) + (x0.toInt64)) + (x1.toInt64))), .second, .val (.ref a2), .val (.int (3 : Int32)), .val (.int (2 : Int32)), .val (.int x1)] [(.int (3 : Int32)), (.int (2 : Int32))]) _
  refine own_st (fun t_ k_ => XS.icmpNo X6.here hx rfl (hb hby d1_31) rfl (by decide) k_) ?_
  show own_Go p e below T6 (mkF m 34 #[.val (.ref a1), .val (.ref a2), .val .null, .val (.long (((0 : Int64) + (x0.toInt64)) + (x1.toInt64))), .second, .val (.ref a2), .val (.int (3 : Int32)), .val (.int (2 : Int32)), .val (.int x1)] []) _
  refine own_st (fun t_ k_ => XS.aload X6.here hx rfl (hb hby d1_34) rfl rfl k_) ?_
  show own_Go p e below T6 (mkF m 36 #[.val (.ref a1), .val (.ref a2), .val .null, .val (.long (((0 : Int64) + (x0.toInt64)) + (x1.toInt64))), .second, .val (.ref a2), .val (.int (3 : Int32)), .val (.int (2 : Int32)), .val (.int x1)] [(.ref a2)]) _
  refine own_st (fun t_ k_ => XS.iload X6.here hx rfl (hb hby d1_36) rfl k_) ?_
  show own_Go p e below T6 (mkF m 38 #[.val (.ref a1), .val (.ref a2), .val .null, .val (.long (((0 : Int64) + (x0.toInt64)) + (x1.toInt64))), .second, .val (.ref a2), .val (.int (3 : Int32)), .val (.int (2 : Int32)), .val (.int x1)] [(.int (2 : Int32)), (.ref a2)]) _
  obtain ⟨cl12, Ar12, q12, Sz12, Nn12, Hh12, Gg12⟩ := id f8
  have hin12 : ¬ ((2 : Int32) < 0 ∨ cl12.slots.size ≤ ((2 : Int32)).toNatClampNeg) := inb_of Sz12 ⟨by decide, by decide⟩
  have hat12 : cl12.slots[((2 : Int32)).toNatClampNeg]? = some (.int x2) := Has.at Hh12 hin12 rfl
  refine own_st (fun t_ k_ => X6.iaload hx (j := (2 : Int32)) (v := (.int x2)) (by rw [e6]; exact Ar12.1) (State.isArrayOf_alike hZ.alike Ar12.2.1) Ar12.2.2 hin12 hat12 (g := (mkF m 38 #[.val (.ref a1), .val (.ref a2), .val .null, .val (.long (((0 : Int64) + (x0.toInt64)) + (x1.toInt64))), .second, .val (.ref a2), .val (.int (3 : Int32)), .val (.int (2 : Int32)), .val (.int x1)] [(.int (2 : Int32)), (.ref a2)])) rfl rfl (hb hby d1_38) _ k_) ?_
  show own_Go p e below T6 (mkF m 39 #[.val (.ref a1), .val (.ref a2), .val .null, .val (.long (((0 : Int64) + (x0.toInt64)) + (x1.toInt64))), .second, .val (.ref a2), .val (.int (3 : Int32)), .val (.int (2 : Int32)), .val (.int x1)] [(.int x2)]) _
  refine own_st (fun t_ k_ => XS.istore X6.here hx rfl (hb hby d1_39) rfl (l' := #[.val (.ref a1), .val (.ref a2), .val .null, .val (.long (((0 : Int64) + (x0.toInt64)) + (x1.toInt64))), .second, .val (.ref a2), .val (.int (3 : Int32)), .val (.int (2 : Int32)), .val (.int x2)]) rfl k_) ?_
  show own_Go p e below T6 (mkF m 41 #[.val (.ref a1), .val (.ref a2), .val .null, .val (.long (((0 : Int64) + (x0.toInt64)) + (x1.toInt64))), .second, .val (.ref a2), .val (.int (3 : Int32)), .val (.int (2 : Int32)), .val (.int x2)] []) _
  refine own_st (fun t_ k_ => XS.lloadN X6.here hx rfl (hb hby d1_41) rfl k_) ?_
  show own_Go p e below T6 (mkF m 42 #[.val (.ref a1), .val (.ref a2), .val .null, .val (.long (((0 : Int64) + (x0.toInt64)) + (x1.toInt64))), .second, .val (.ref a2), .val (.int (3 : Int32)), .val (.int (2 : Int32)), .val (.int x2)] [(.long (((0 : Int64) + (x0.toInt64)) + (x1.toInt64)))]) _
  refine own_st (fun t_ k_ => XS.iload X6.here hx rfl (hb hby d1_42) rfl k_) ?_
  show own_Go p e below T6 (mkF m 44 #[.val (.ref a1), .val (.ref a2), .val .null, .val (.long (((0 : Int64) + (x0.toInt64)) + (x1.toInt64))), .second, .val (.ref a2), .val (.int (3 : Int32)), .val (.int (2 : Int32)), .val (.int x2)] [(.int x2), (.long (((0 : Int64) + (x0.toInt64)) + (x1.toInt64)))]) _
  refine own_st (fun t_ k_ => XS.i2l X6.here hx rfl (hb hby d1_44) rfl k_) ?_
  show own_Go p e below T6 (mkF m 45 #[.val (.ref a1), .val (.ref a2), .val .null, .val (.long (((0 : Int64) + (x0.toInt64)) + (x1.toInt64))), .second, .val (.ref a2), .val (.int (3 : Int32)), .val (.int (2 : Int32)), .val (.int x2)] [(.long (x2.toInt64)), (.long (((0 : Int64) + (x0.toInt64)) + (x1.toInt64)))]) _
  refine own_st (fun t_ k_ => XS.ladd X6.here hx rfl (hb hby d1_45) rfl k_) ?_
  show own_Go p e below T6 (mkF m 46 #[.val (.ref a1), .val (.ref a2), .val .null, .val (.long (((0 : Int64) + (x0.toInt64)) + (x1.toInt64))), .second, .val (.ref a2), .val (.int (3 : Int32)), .val (.int (2 : Int32)), .val (.int x2)] [(.long ((((0 : Int64) + (x0.toInt64)) + (x1.toInt64)) + (x2.toInt64)))]) _
  refine own_st (fun t_ k_ => XS.lstoreN X6.here hx rfl (hb hby d1_46) rfl (l' := #[.val (.ref a1), .val (.ref a2), .val .null, .val (.long ((((0 : Int64) + (x0.toInt64)) + (x1.toInt64)) + (x2.toInt64))), .second, .val (.ref a2), .val (.int (3 : Int32)), .val (.int (2 : Int32)), .val (.int x2)]) rfl k_) ?_
  show own_Go p e below T6 (mkF m 47 #[.val (.ref a1), .val (.ref a2), .val .null, .val (.long ((((0 : Int64) + (x0.toInt64)) + (x1.toInt64)) + (x2.toInt64))), .second, .val (.ref a2), .val (.int (3 : Int32)), .val (.int (2 : Int32)), .val (.int x2)] []) _
  refine own_st (fun t_ k_ => XS.iinc X6.here hx rfl (hb hby d1_47) rfl (l' := #[.val (.ref a1), .val (.ref a2), .val .null, .val (.long ((((0 : Int64) + (x0.toInt64)) + (x1.toInt64)) + (x2.toInt64))), .second, .val (.ref a2), .val (.int (3 : Int32)), .val (.int (3 : Int32)), .val (.int x2)]) rfl k_) ?_
  show own_Go p e below T6 (mkF m 50 #[.val (.ref a1), .val (.ref a2), .val .null, .val (.long ((((0 : Int64) + (x0.toInt64)) + (x1.toInt64)) + (x2.toInt64))), .second, .val (.ref a2), .val (.int (3 : Int32)), .val (.int (3 : Int32)), .val (.int x2)] []) _
  refine own_st (fun t_ k_ => XS.goto X6.here hx rfl (pc0 := 50) (pc' := 27) rfl (hb hby d1_50) (by decide) (by decide) k_) ?_
  show own_Go p e below T6 (mkF m 27 #[.val (.ref a1), .val (.ref a2), .val .null, .val (.long ((((0 : Int64) + (x0.toInt64)) + (x1.toInt64)) + (x2.toInt64))), .second, .val (.ref a2), .val (.int (3 : Int32)), .val (.int (3 : Int32)), .val (.int x2)] []) _
  refine own_st (fun t_ k_ => XS.iload X6.here hx rfl (hb hby d1_27) rfl k_) ?_
  show own_Go p e below T6 (mkF m 29 #[.val (.ref a1), .val (.ref a2), .val .null, .val (.long ((((0 : Int64) + (x0.toInt64)) + (x1.toInt64)) + (x2.toInt64))), .second, .val (.ref a2), .val (.int (3 : Int32)), .val (.int (3 : Int32)), .val (.int x2)] [(.int (3 : Int32))]) _
  refine own_st (fun t_ k_ => XS.iload X6.here hx rfl (hb hby d1_29) rfl k_) ?_
  show own_Go p e below T6 (mkF m 31 #[.val (.ref a1), .val (.ref a2), .val .null, .val (.long ((((0 : Int64) + (x0.toInt64)) + (x1.toInt64)) + (x2.toInt64))), .second, .val (.ref a2), .val (.int (3 : Int32)), .val (.int (3 : Int32)), .val (.int x2)] [(.int (3 : Int32)), (.int (3 : Int32))]) _
  refine own_st (fun t_ k_ => XS.icmpYes X6.here hx rfl (pc0 := 31) (pc' := 53) rfl (hb hby d1_31) rfl (by decide) (by decide) (by decide) k_) ?_
  show own_Go p e below T6 (mkF m 53 #[.val (.ref a1), .val (.ref a2), .val .null, .val (.long ((((0 : Int64) + (x0.toInt64)) + (x1.toInt64)) + (x2.toInt64))), .second, .val (.ref a2), .val (.int (3 : Int32)), .val (.int (3 : Int32)), .val (.int x2)] []) _
  refine own_st (fun t_ k_ => XS.aloadN X6.here hx rfl (hb hby d1_53) rfl rfl k_) ?_
  show own_Go p e below T6 (mkF m 54 #[.val (.ref a1), .val (.ref a2), .val .null, .val (.long ((((0 : Int64) + (x0.toInt64)) + (x1.toInt64)) + (x2.toInt64))), .second, .val (.ref a2), .val (.int (3 : Int32)), .val (.int (3 : Int32)), .val (.int x2)] [(.ref a1)]) _
  refine own_st (fun t_ k_ => XS.lloadN X6.here hx rfl (hb hby d1_54) rfl k_) ?_
  show own_Go p e below T6 (mkF m 55 #[.val (.ref a1), .val (.ref a2), .val .null, .val (.long ((((0 : Int64) + (x0.toInt64)) + (x1.toInt64)) + (x2.toInt64))), .second, .val (.ref a2), .val (.int (3 : Int32)), .val (.int (3 : Int32)), .val (.int x2)] [(.long ((((0 : Int64) + (x0.toInt64)) + (x1.toInt64)) + (x2.toInt64))), (.ref a1)]) _
  have f13 := (f4.wr W6)
  have f14 := ((pF_totalLength_a1.other W2 (Or.inr (slot_ne (Or.inr (hw _ (List.mem_of_getElem? (i := 15) rfl))) (Or.inr (hw _ (List.mem_of_getElem? (i := 11) rfl))) (by decide) (t := .long) (t' := (.array .int)) (by decide) (by decide)))).other W6 (Or.inr (slot_ne (Or.inr (hw _ (List.mem_of_getElem? (i := 15) rfl))) (Or.inr (hw _ (List.mem_of_getElem? (i := 13) rfl))) (by decide) (t := .long) (t' := (.object "java/util/Map")) (by decide) (by decide))))
  obtain ⟨T15, h15, X15, e15, W15, st15⟩ := putF X6 hx hZ hown (host := "") (Or.inl (hw _ (List.mem_of_getElem? (i := 14) rfl))) Via.refl e6 f14 f13 (Or.inr ⟨(hw _ (List.mem_of_getElem? (i := 15) rfl)), rfl, hnm⟩) (hw _ (List.mem_of_getElem? (i := 2) rfl)) (ty := .long) (by decide) rfl rfl (g := (mkF m 55 #[.val (.ref a1), .val (.ref a2), .val .null, .val (.long ((((0 : Int64) + (x0.toInt64)) + (x1.toInt64)) + (x2.toInt64))), .second, .val (.ref a2), .val (.int (3 : Int32)), .val (.int (3 : Int32)), .val (.int x2)] [(.long ((((0 : Int64) + (x0.toInt64)) + (x1.toInt64)) + (x2.toInt64))), (.ref a1)])) rfl rfl (hb hby d1_55)
  have F15 := f14.same W15
  have K16 : Keep h0 h15 [a1] := K7.wr W15 (Or.inl (List.mem_of_getElem? (i := 0) rfl))
  have N15 := Fr.snoc X15 N6 pG_a1
  refine own_st st15 ?_
  show own_Go p e below T15 (mkF m 58 #[.val (.ref a1), .val (.ref a2), .val .null, .val (.long ((((0 : Int64) + (x0.toInt64)) + (x1.toInt64)) + (x2.toInt64))), .second, .val (.ref a2), .val (.int (3 : Int32)), .val (.int (3 : Int32)), .val (.int x2)] []) _
  have f17 := (f13.wr W15)
  have f18 := ((F2.other W6 (Or.inr (slot_ne (Or.inr (hw _ (List.mem_of_getElem? (i := 11) rfl))) (Or.inr (hw _ (List.mem_of_getElem? (i := 13) rfl))) (by decide) (t := (.array .int)) (t' := (.object "java/util/Map")) (by decide) (by decide)))).other W15 (Or.inr (slot_ne (Or.inr (hw _ (List.mem_of_getElem? (i := 11) rfl))) (Or.inr (hw _ (List.mem_of_getElem? (i := 15) rfl))) (by decide) (t := (.array .int)) (t' := .long) (by decide) (by decide))))
  have f19 := (f8.other W15 (Ne.symm (Exa.neArv f13 f8 (hw _ (List.mem_of_getElem? (i := 2) rfl)))))
  obtain ⟨fs, hr, hrun, hended, hW, hsame⟩ := X15.leave (v := none) (fun _ => rfl)
  refine own_fin (X15.returnOut hx Bd.returns (hb hby d1_58) hr) ⟨hrun, hended, _, _, rfl, ?_, ⟨_, rfl⟩, hW, hsame.mono (by decide) (by decide)⟩
  show Q_rmIn3 Z a1 a2 ki x0 x1 x2 u1 u2 u3 h0 n0 _ T15.heap _
  rw [e15]
  exact ⟨rfl, N15, K16, f17, f18, F15, f19⟩
theorem ef_rmAv3 (m : MethodId) (x0 : Addr) : entryFrame m #[(.ref x0)] 1 = mkF m 0 #[.val (.ref x0)] [] := by first | (simp [entryFrame, mkF, argsToLocals, Value.category]; done) | rfl
def Q_rmAv3 (Z : State) (a1 : Addr) (a2 : Addr) (ki : ClassId) (x0 : Int32) (x1 : Int32) (x2 : Int32) (sm : Int64) (h0 : Heap) (n0 : Nat) (v : Option Value) (h : Heap) (L : List Loc) : Prop := v = some (.double (own_avg sm (3 : Int32))) ∧ Fr n0 L ∧ h = h0
set_option maxRecDepth 65536 in
set_option maxHeartbeats 40000000 in
theorem rmAv3 (l : Launch) (Z : State) (a0 : Array Value) (hw : ∀ d ∈ tables_1, d.before a0 Z = true) (ws : List Jvm.Cond) (a1 : Addr) (a2 : Addr) (ki : ClassId) (x0 : Int32) (x1 : Int32) (x2 : Int32) (sm : Int64) (h0 : Heap) (n0 : Nat) (Z0 : n0 ≤ h0.size) (pF_lengths_a1 : Fld Z h0 a1 "com/example/descriptor/descriptor/engine/index/InvertedField" "lengths" "[I" (.ref a2)) (pF_totalLength_a1 : Fld Z h0 a1 "com/example/descriptor/descriptor/engine/index/InvertedField" "totalLength" "J" (.long sm)) (pV_a2 : Arv Z h0 a2 ki .int (3 : Int32) [(.int x0), (.int x1), (.int x2)] (.int (0 : Int32))) (hs : (sm.toInt.natAbs ≤ 2 ^ 53)) :
    MetFree l (⟨"com/example/descriptor/descriptor/engine/index/InvertedField", "averageLength", "()D"⟩ : MethodName) (head1 (Jvm.Cond.code (⟨"com/example/descriptor/descriptor/engine/index/InvertedField", "averageLength", "()D"⟩ : MethodName) prog_17_method_5_code 1 (some .double) :: ws) ({ frames := 0, cells := 0, slots := 0, locals := 0 } : Room)) (fun a U => a = #[(.ref a1)] ∧ Z.Warmed39 U.vm ∧ U.heap = h0) (fun _ _ _ _ _ => True) (fun _ U o U' => ∃ v L, o = .returned v ∧ Q_rmAv3 Z a1 a2 ki x0 x1 x2 sm h0 n0 v U'.heap L ∧ FrameEnd U o U' L ({ frames := 0, cells := 0, slots := 0, locals := 0 } : Room).cells ({ frames := 0, cells := 0, slots := 0, locals := 0 } : Room).slots) := by
  refine MetFree.of_bodySF (plainFor_of_name pn_3) hisR ?_
  intro p e s m args below meth c s₁ Bd hml0 hP hK
  obtain ⟨rfl, hZ, hh⟩ := hP
  have hx := Bd.exec
  have hby := Bd.bytes
  have hml : c.maxLocals = 1 := hml0
  have hown : s.vm.findClass "com/example/descriptor/descriptor/engine/index/InvertedField" = some m.cls := findClass_of_methodNamed Bd.named
  have hnm := (name_of_methodNamed Bd.named Bd.method).1
  have X0 : Stand p l e ({ frames := 0, cells := 0, slots := 0, locals := 0 } : Room) s m #[(.ref a1)] below meth c s₁ [] 0 0 := Stand.of_body Bd
  have e0 : s₁.heap = h0 := by rw [← hh, Bd.state]; rfl
  have N0 := Fr.nil n0
  refine own_enter (ef_rmAv3 m a1) ?_
  refine own_st (fun t_ k_ => XS.aloadN X0.here hx rfl (hb hby d3_0) rfl rfl k_) ?_
  show own_Go p e below s₁ (mkF m 1 #[.val (.ref a1)] [(.ref a1)]) _
  obtain ⟨T1, X1, e1, st1⟩ := getF X0 hx hZ hown (host := "") (Or.inl (hw _ (List.mem_of_getElem? (i := 10) rfl))) Via.refl e0 pF_lengths_a1 (g := (mkF m 1 #[.val (.ref a1)] [(.ref a1)])) rfl rfl (hb hby d3_1)
  refine own_st st1 ?_
  show own_Go p e below T1 (mkF m 4 #[.val (.ref a1)] [(.ref a2)]) _
  obtain ⟨cl2, Ar2, q2, Sz2, Nn2, Hh2, Gg2⟩ := id pV_a2
  refine own_st (fun t_ k_ => X1.arraylength hx (by rw [e1]; exact Ar2.1) (State.isArrayOf_alike hZ.alike Ar2.2.1) (g := (mkF m 4 #[.val (.ref a1)] [(.ref a2)])) rfl rfl (hb hby d3_4) _ k_) ?_
  rw [len_of Sz2 Nn2]
  show own_Go p e below T1 (mkF m 5 #[.val (.ref a1)] [(.int (3 : Int32))]) _
  refine own_st (fun t_ k_ => XS.ifYes X1.here hx rfl (pc0 := 5) (pc' := 12) rfl (hb hby d3_5) rfl (by decide) (by decide) (by decide) k_) ?_
  show own_Go p e below T1 (mkF m 12 #[.val (.ref a1)] []) _
  refine own_st (fun t_ k_ => XS.aloadN X1.here hx rfl (hb hby d3_12) rfl rfl k_) ?_
  show own_Go p e below T1 (mkF m 13 #[.val (.ref a1)] [(.ref a1)]) _
  obtain ⟨T3, X3, e3, st3⟩ := getF X1 hx hZ hown (host := "") (Or.inl (hw _ (List.mem_of_getElem? (i := 14) rfl))) Via.refl e1 pF_totalLength_a1 (g := (mkF m 13 #[.val (.ref a1)] [(.ref a1)])) rfl rfl (hb hby d3_13)
  refine own_st st3 ?_
  show own_Go p e below T3 (mkF m 16 #[.val (.ref a1)] [(.long sm)]) _
  refine own_st (fun t_ k_ => XS.l2dS X3.here hx rfl (hb hby d3_16) rfl rfl k_) ?_
  show own_Go p e below T3 (mkF m 17 #[.val (.ref a1)] [(.double (FP.l2d sm))]) _
  refine own_st (fun t_ k_ => XS.aloadN X3.here hx rfl (hb hby d3_17) rfl rfl k_) ?_
  show own_Go p e below T3 (mkF m 18 #[.val (.ref a1)] [(.ref a1), (.double (FP.l2d sm))]) _
  obtain ⟨T4, X4, e4, st4⟩ := getF X3 hx hZ hown (host := "") (Or.inl (hw _ (List.mem_of_getElem? (i := 10) rfl))) Via.refl e3 pF_lengths_a1 (g := (mkF m 18 #[.val (.ref a1)] [(.ref a1), (.double (FP.l2d sm))])) rfl rfl (hb hby d3_18)
  refine own_st st4 ?_
  show own_Go p e below T4 (mkF m 21 #[.val (.ref a1)] [(.ref a2), (.double (FP.l2d sm))]) _
  obtain ⟨cl5, Ar5, q5, Sz5, Nn5, Hh5, Gg5⟩ := id pV_a2
  refine own_st (fun t_ k_ => X4.arraylength hx (by rw [e4]; exact Ar5.1) (State.isArrayOf_alike hZ.alike Ar5.2.1) (g := (mkF m 21 #[.val (.ref a1)] [(.ref a2), (.double (FP.l2d sm))])) rfl rfl (hb hby d3_21) _ k_) ?_
  rw [len_of Sz5 Nn5]
  show own_Go p e below T4 (mkF m 22 #[.val (.ref a1)] [(.int (3 : Int32)), (.double (FP.l2d sm))]) _
  refine own_st (fun t_ k_ => XS.i2dS X4.here hx rfl (hb hby d3_22) rfl rfl k_) ?_
  show own_Go p e below T4 (mkF m 23 #[.val (.ref a1)] [(.double (FP.i2d (3 : Int32))), (.double (FP.l2d sm))]) _
  refine own_st (fun t_ k_ => XS.ddivS X4.here hx rfl (hb hby d3_23) rfl (own_avg_facts hs (by decide) (by decide)).1 rfl k_) ?_
  show own_Go p e below T4 (mkF m 24 #[.val (.ref a1)] [(.double (FP.ddiv (FP.l2d sm) (FP.i2d (3 : Int32))))]) _
  show own_Go p e below T4 (mkF m 24 #[.val (.ref a1)] [(.double (own_avg sm (3 : Int32)))]) _
  obtain ⟨fs, hr, hrun, hended, hW, hsame⟩ := X4.leave (v := some (.double (own_avg sm (3 : Int32)))) (fun h => by rw [Bd.returns] at h; cases h)
  refine own_fin (own_retD X4 hx Bd.returns (hb hby d3_24) hr) ⟨hrun, hended, _, _, rfl, ?_, ⟨_, rfl⟩, hW, hsame.mono (by decide) (by decide)⟩
  show Q_rmAv3 Z a1 a2 ki x0 x1 x2 sm h0 n0 _ T4.heap _
  rw [e4]
  exact ⟨rfl, N0, rfl⟩
theorem pn_0 : plainName "com/example/descriptor/descriptor/engine/index/InvertedFieldAverageLengthPinLaw" = true := by first | (simp [plainName, overriddenIn]; done) | decide +kernel
theorem pd___ILjava_util_Map__V : parseMethodDescriptor "([ILjava/util/Map;)V" = some ⟨[(.array .int), (.object "java/util/Map")], none⟩ := by decide +kernel
theorem pd___D : parseMethodDescriptor "()D" = some ⟨[], some .double⟩ := by decide +kernel
theorem ef_rmLaw0 (m : MethodId) (x0 : Int32) (x1 : Int32) (x2 : Int32) (x3 : Int32) : entryFrame m #[(.int x0), (.int x1), (.int x2), (.int x3)] maxLocals = mkF m 0 #[.val (.int x0), .val (.int x1), .val (.int x2), .val (.int x3), .unset, .unset, .unset, .unset, .unset, .unset, .unset, .unset, .unset, .unset, .unset, .unset, .unset, .unset, .unset] [] := by first | (simp [entryFrame, mkF, argsToLocals, Value.category, maxLocals]; done) | rfl
def Q_rmLaw0 (Z : State) (p0 : Int32) (x0 : Int32) (x1 : Int32) (x2 : Int32) (h0 : Heap) (n0 : Nat) (v : Option Value) (h : Heap) (L : List Loc) : Prop := v = some (.int (1 : Int32)) ∧ Fr n0 L ∧ Keep h0 h []
set_option maxRecDepth 65536 in
set_option maxHeartbeats 40000000 in
theorem rmLaw0 (l : Launch) (Z : State) (a0 : Array Value) (hw : ∀ d ∈ tables_1, d.before a0 Z = true) (ws : List Jvm.Cond) (p0 : Int32) (x0 : Int32) (x1 : Int32) (x2 : Int32) (h0 : Heap) (n0 : Nat) (Z0 : n0 ≤ h0.size) (hn : (p0 &&& (3 : Int32) = (0 : Int32))) :
    MetFree l x (head1 (Jvm.Cond.code x code maxLocals ret :: ws) room_1) (fun a U => a = #[(.int p0), (.int x0), (.int x1), (.int x2)] ∧ Z.Warmed39 U.vm ∧ U.heap = h0) (fun _ _ _ _ _ => True) (fun _ U o U' => ∃ v L, o = .returned v ∧ Q_rmLaw0 Z p0 x0 x1 x2 h0 n0 v U'.heap L ∧ FrameEnd U o U' L 16 128) := by
  refine MetFree.of_bodySF (plainFor_of_name pn_0) hisR ?_
  intro p e s m args below meth c s₁ Bd hml0 hP hK
  obtain ⟨rfl, hZ, hh⟩ := hP
  have hx := Bd.exec
  have hby := Bd.bytes
  have hml : c.maxLocals = 19 := hml0
  have hown : s.vm.findClass "com/example/descriptor/descriptor/engine/index/InvertedFieldAverageLengthPinLaw" = some m.cls := findClass_of_methodNamed Bd.named
  have hnm := (name_of_methodNamed Bd.named Bd.method).1
  have X0 : Stand p l e room_1 s m #[(.int p0), (.int x0), (.int x1), (.int x2)] below meth c s₁ [] 0 0 := Stand.of_body Bd
  have e0 : s₁.heap = h0 := by rw [← hh, Bd.state]; rfl
  have N0 := Fr.nil n0
  refine own_enter (ef_rmLaw0 m p0 x0 x1 x2) ?_
  refine own_st (fun t_ k_ => XS.iloadN X0.here hx rfl (hb hby at_0) rfl k_) ?_
  show own_Go p e below s₁ (mkF m 1 #[.val (.int p0), .val (.int x0), .val (.int x1), .val (.int x2), .unset, .unset, .unset, .unset, .unset, .unset, .unset, .unset, .unset, .unset, .unset, .unset, .unset, .unset, .unset] [(.int p0)]) _
  refine own_st (fun t_ k_ => XS.iconst X0.here hx rfl (hb hby at_1) k_) ?_
  show own_Go p e below s₁ (mkF m 2 #[.val (.int p0), .val (.int x0), .val (.int x1), .val (.int x2), .unset, .unset, .unset, .unset, .unset, .unset, .unset, .unset, .unset, .unset, .unset, .unset, .unset, .unset, .unset] [(.int (3 : Int32)), (.int p0)]) _
  refine own_st (fun t_ k_ => XS.iand X0.here hx rfl (hb hby at_2) rfl k_) ?_
  show own_Go p e below s₁ (mkF m 3 #[.val (.int p0), .val (.int x0), .val (.int x1), .val (.int x2), .unset, .unset, .unset, .unset, .unset, .unset, .unset, .unset, .unset, .unset, .unset, .unset, .unset, .unset, .unset] [(.int (p0 &&& (3 : Int32)))]) _
  rw [hn]
  show own_Go p e below s₁ (mkF m 3 #[.val (.int p0), .val (.int x0), .val (.int x1), .val (.int x2), .unset, .unset, .unset, .unset, .unset, .unset, .unset, .unset, .unset, .unset, .unset, .unset, .unset, .unset, .unset] [(.int (0 : Int32))]) _
  refine own_st (fun t_ k_ => XS.istore X0.here hx rfl (hb hby at_3) rfl (l' := #[.val (.int p0), .val (.int x0), .val (.int x1), .val (.int x2), .val (.int (0 : Int32)), .unset, .unset, .unset, .unset, .unset, .unset, .unset, .unset, .unset, .unset, .unset, .unset, .unset, .unset]) rfl k_) ?_
  show own_Go p e below s₁ (mkF m 5 #[.val (.int p0), .val (.int x0), .val (.int x1), .val (.int x2), .val (.int (0 : Int32)), .unset, .unset, .unset, .unset, .unset, .unset, .unset, .unset, .unset, .unset, .unset, .unset, .unset, .unset] []) _
  refine own_st (fun t_ k_ => XS.iload X0.here hx rfl (hb hby at_5) rfl k_) ?_
  show own_Go p e below s₁ (mkF m 7 #[.val (.int p0), .val (.int x0), .val (.int x1), .val (.int x2), .val (.int (0 : Int32)), .unset, .unset, .unset, .unset, .unset, .unset, .unset, .unset, .unset, .unset, .unset, .unset, .unset, .unset] [(.int (0 : Int32))]) _
  refine own_st (fun t_ k_ => XS.iconst X0.here hx rfl (hb hby at_7) k_) ?_
  show own_Go p e below s₁ (mkF m 8 #[.val (.int p0), .val (.int x0), .val (.int x1), .val (.int x2), .val (.int (0 : Int32)), .unset, .unset, .unset, .unset, .unset, .unset, .unset, .unset, .unset, .unset, .unset, .unset, .unset, .unset] [(.int (3 : Int32)), (.int (0 : Int32))]) _
  refine own_st (fun t_ k_ => XS.icmpYes X0.here hx rfl (pc0 := 8) (pc' := 14) rfl (hb hby at_8) rfl (by decide) (by decide) (by decide) k_) ?_
  show own_Go p e below s₁ (mkF m 14 #[.val (.int p0), .val (.int x0), .val (.int x1), .val (.int x2), .val (.int (0 : Int32)), .unset, .unset, .unset, .unset, .unset, .unset, .unset, .unset, .unset, .unset, .unset, .unset, .unset, .unset] []) _
  refine own_st (fun t_ k_ => XS.iload X0.here hx rfl (hb hby at_14) rfl k_) ?_
  show own_Go p e below s₁ (mkF m 16 #[.val (.int p0), .val (.int x0), .val (.int x1), .val (.int x2), .val (.int (0 : Int32)), .unset, .unset, .unset, .unset, .unset, .unset, .unset, .unset, .unset, .unset, .unset, .unset, .unset, .unset] [(.int (0 : Int32))]) _
  obtain ⟨T1, h1, k1, X1, e1, E1, A1, st1⟩ := newP X0 hx hZ (hw _ (List.mem_of_getElem? (i := 0) rfl)) e0 (g := (mkF m 16 #[.val (.int p0), .val (.int x0), .val (.int x1), .val (.int x2), .val (.int (0 : Int32)), .unset, .unset, .unset, .unset, .unset, .unset, .unset, .unset, .unset, .unset, .unset, .unset, .unset, .unset] [(.int (0 : Int32))])) rfl (hb hby at_16) rfl (by decide) (cap := 0) (by decide) (by decide) (by decide) (by decide)
  obtain ⟨b1, g1⟩ : ∃ z, z = h0.size := ⟨_, rfl⟩
  rw [← g1] at A1 st1
  have G1 : n0 ≤ b1 := Nat.le_trans Z0 (Nat.le_of_eq g1.symm)
  have B1 : h0.size ≤ b1 := Nat.le_trans (Keep.refl h0 []).1 (Nat.le_of_eq g1.symm)
  have K2 : Keep h0 h1 [] := (Keep.refl h0 []).ext E1
  have V1 : Arv Z h1 b1 k1 .int (0 : Int32) [] (.int (0 : Int32)) := Arv.new A1 (by decide)
  refine own_st st1 ?_
  show own_Go p e below T1 (mkF m 18 #[.val (.int p0), .val (.int x0), .val (.int x1), .val (.int x2), .val (.int (0 : Int32)), .unset, .unset, .unset, .unset, .unset, .unset, .unset, .unset, .unset, .unset, .unset, .unset, .unset, .unset] [(.ref b1)]) _
  refine own_st (fun t_ k_ => XS.astore X1.here hx rfl (hb hby at_18) rfl rfl (l' := #[.val (.int p0), .val (.int x0), .val (.int x1), .val (.int x2), .val (.int (0 : Int32)), .val (.ref b1), .unset, .unset, .unset, .unset, .unset, .unset, .unset, .unset, .unset, .unset, .unset, .unset, .unset]) rfl k_) ?_
  show own_Go p e below T1 (mkF m 20 #[.val (.int p0), .val (.int x0), .val (.int x1), .val (.int x2), .val (.int (0 : Int32)), .val (.ref b1), .unset, .unset, .unset, .unset, .unset, .unset, .unset, .unset, .unset, .unset, .unset, .unset, .unset] []) _
  refine own_st (fun t_ k_ => XS.iload X1.here hx rfl (hb hby at_20) rfl k_) ?_
  show own_Go p e below T1 (mkF m 22 #[.val (.int p0), .val (.int x0), .val (.int x1), .val (.int x2), .val (.int (0 : Int32)), .val (.ref b1), .unset, .unset, .unset, .unset, .unset, .unset, .unset, .unset, .unset, .unset, .unset, .unset, .unset] [(.int (0 : Int32))]) _
  refine own_st (fun t_ k_ => XS.ifYes X1.here hx rfl (pc0 := 22) (pc' := 30) rfl (hb hby at_22) rfl (by decide) (by decide) (by decide) k_) ?_
  show own_Go p e below T1 (mkF m 30 #[.val (.int p0), .val (.int x0), .val (.int x1), .val (.int x2), .val (.int (0 : Int32)), .val (.ref b1), .unset, .unset, .unset, .unset, .unset, .unset, .unset, .unset, .unset, .unset, .unset, .unset, .unset] []) _
  refine own_st (fun t_ k_ => XS.iload X1.here hx rfl (hb hby at_30) rfl k_) ?_
  show own_Go p e below T1 (mkF m 32 #[.val (.int p0), .val (.int x0), .val (.int x1), .val (.int x2), .val (.int (0 : Int32)), .val (.ref b1), .unset, .unset, .unset, .unset, .unset, .unset, .unset, .unset, .unset, .unset, .unset, .unset, .unset] [(.int (0 : Int32))]) _
  refine own_st (fun t_ k_ => XS.iconst X1.here hx rfl (hb hby at_32) k_) ?_
  show own_Go p e below T1 (mkF m 33 #[.val (.int p0), .val (.int x0), .val (.int x1), .val (.int x2), .val (.int (0 : Int32)), .val (.ref b1), .unset, .unset, .unset, .unset, .unset, .unset, .unset, .unset, .unset, .unset, .unset, .unset, .unset] [(.int (1 : Int32)), (.int (0 : Int32))]) _
  refine own_st (fun t_ k_ => XS.icmpYes X1.here hx rfl (pc0 := 33) (pc' := 41) rfl (hb hby at_33) rfl (by decide) (by decide) (by decide) k_) ?_
  show own_Go p e below T1 (mkF m 41 #[.val (.int p0), .val (.int x0), .val (.int x1), .val (.int x2), .val (.int (0 : Int32)), .val (.ref b1), .unset, .unset, .unset, .unset, .unset, .unset, .unset, .unset, .unset, .unset, .unset, .unset, .unset] []) _
  refine own_st (fun t_ k_ => XS.iload X1.here hx rfl (hb hby at_41) rfl k_) ?_
  show own_Go p e below T1 (mkF m 43 #[.val (.int p0), .val (.int x0), .val (.int x1), .val (.int x2), .val (.int (0 : Int32)), .val (.ref b1), .unset, .unset, .unset, .unset, .unset, .unset, .unset, .unset, .unset, .unset, .unset, .unset, .unset] [(.int (0 : Int32))]) _
  refine own_st (fun t_ k_ => XS.iconst X1.here hx rfl (hb hby at_43) k_) ?_
  show own_Go p e below T1 (mkF m 44 #[.val (.int p0), .val (.int x0), .val (.int x1), .val (.int x2), .val (.int (0 : Int32)), .val (.ref b1), .unset, .unset, .unset, .unset, .unset, .unset, .unset, .unset, .unset, .unset, .unset, .unset, .unset] [(.int (2 : Int32)), (.int (0 : Int32))]) _
  refine own_st (fun t_ k_ => XS.icmpYes X1.here hx rfl (pc0 := 44) (pc' := 52) rfl (hb hby at_44) rfl (by decide) (by decide) (by decide) k_) ?_
  show own_Go p e below T1 (mkF m 52 #[.val (.int p0), .val (.int x0), .val (.int x1), .val (.int x2), .val (.int (0 : Int32)), .val (.ref b1), .unset, .unset, .unset, .unset, .unset, .unset, .unset, .unset, .unset, .unset, .unset, .unset, .unset] []) _
  have f3 := (Nat.le_trans Z0 E1.1)
  obtain ⟨T4, h4, X4, e4, E4, A4, D4, -, st4⟩ := newO X1 hx hZ hown (hw _ (List.mem_of_getElem? (i := 1) rfl)) (hw _ (List.mem_of_getElem? (i := 2) rfl)) (hw _ (List.mem_of_getElem? (i := 3) rfl)) e1 (g := (mkF m 52 #[.val (.int p0), .val (.int x0), .val (.int x1), .val (.int x2), .val (.int (0 : Int32)), .val (.ref b1), .unset, .unset, .unset, .unset, .unset, .unset, .unset, .unset, .unset, .unset, .unset, .unset, .unset] [])) rfl (hb hby at_52) (by decide) (by decide)
  obtain ⟨b4, g4⟩ : ∃ z, z = h1.size := ⟨_, rfl⟩
  rw [← g4] at A4 D4 st4
  have G4 : n0 ≤ b4 := Nat.le_trans f3 (Nat.le_of_eq g4.symm)
  have B4 : h0.size ≤ b4 := Nat.le_trans K2.1 (Nat.le_of_eq g4.symm)
  have K5 : Keep h0 h4 [] := K2.ext E4
  have D4_lengths : Fld Z h4 b4 "com/example/descriptor/descriptor/engine/index/InvertedField" "lengths" "[I" .null := D4 (Or.inr (hw _ (List.mem_of_getElem? (i := 11) rfl))) (ty := (.array .int)) (by decide)
  have D4_postings : Fld Z h4 b4 "com/example/descriptor/descriptor/engine/index/InvertedField" "postings" "Ljava/util/Map;" .null := D4 (Or.inr (hw _ (List.mem_of_getElem? (i := 13) rfl))) (ty := (.object "java/util/Map")) (by decide)
  have D4_totalLength : Fld Z h4 b4 "com/example/descriptor/descriptor/engine/index/InvertedField" "totalLength" "J" (.long (0 : Int64)) := D4 (Or.inr (hw _ (List.mem_of_getElem? (i := 15) rfl))) (ty := .long) (by decide)
  refine own_st st4 ?_
  show own_Go p e below T4 (mkF m 55 #[.val (.int p0), .val (.int x0), .val (.int x1), .val (.int x2), .val (.int (0 : Int32)), .val (.ref b1), .unset, .unset, .unset, .unset, .unset, .unset, .unset, .unset, .unset, .unset, .unset, .unset, .unset] [(.ref b4)]) _
  refine own_st (fun t_ k_ => XS.dup X4.here hx rfl (hb hby at_55) rfl rfl k_) ?_
  show own_Go p e below T4 (mkF m 56 #[.val (.int p0), .val (.int x0), .val (.int x1), .val (.int x2), .val (.int (0 : Int32)), .val (.ref b1), .unset, .unset, .unset, .unset, .unset, .unset, .unset, .unset, .unset, .unset, .unset, .unset, .unset] [(.ref b4), (.ref b4)]) _
  refine own_st (fun t_ k_ => XS.aload X4.here hx rfl (hb hby at_56) rfl rfl k_) ?_
  show own_Go p e below T4 (mkF m 58 #[.val (.int p0), .val (.int x0), .val (.int x1), .val (.int x2), .val (.int (0 : Int32)), .val (.ref b1), .unset, .unset, .unset, .unset, .unset, .unset, .unset, .unset, .unset, .unset, .unset, .unset, .unset] [(.ref b1), (.ref b4), (.ref b4)]) _
  refine own_st (fun t_ k_ => XS.aconstNull X4.here hx rfl (hb hby at_58) k_) ?_
  show own_Go p e below T4 (mkF m 59 #[.val (.int p0), .val (.int x0), .val (.int x1), .val (.int x2), .val (.int (0 : Int32)), .val (.ref b1), .unset, .unset, .unset, .unset, .unset, .unset, .unset, .unset, .unset, .unset, .unset, .unset, .unset] [.null, (.ref b1), (.ref b4), (.ref b4)]) _
  have f6 := (Nat.le_trans f3 E4.1)
  have f7 := (V1.ext E4)
  obtain ⟨_, _, ⟨T8, L8, k8, n8⟩, -, X8, ⟨Lc8, hQ8, l8, y8, z8⟩, st8⟩ := X4.specialBack hx (y := (⟨"com/example/descriptor/descriptor/engine/index/InvertedField", "<init>", "([ILjava/util/Map;)V"⟩ : MethodName)) rfl hown (mvT hZ (hw _ (List.mem_of_getElem? (i := 4) rfl))) (mvT hZ (hw _ (List.mem_of_getElem? (i := 5) rfl))) (mvT hZ (hw _ (List.mem_of_getElem? (i := 6) rfl))) (by decide) (backOf (W := 1) (rmIn0 l Z a0 hw [] b4 b1 k1 .null .null ((.long (0 : Int64))) h4 n0 f6 A4 D4_lengths D4_postings D4_totalLength G4 f7) hZ (hw _ (List.mem_of_getElem? (i := 6) rfl)) (hw _ (List.mem_of_getElem? (i := 3) rfl)) (by decide) (by decide)) (g := (mkF m 59 #[.val (.int p0), .val (.int x0), .val (.int x1), .val (.int x2), .val (.int (0 : Int32)), .val (.ref b1), .unset, .unset, .unset, .unset, .unset, .unset, .unset, .unset, .unset, .unset, .unset, .unset, .unset] [.null, (.ref b1), (.ref b4), (.ref b4)])) rfl (by rw [hml]; rfl) (Steps.refl _) (a := b4) (argsL := [(.ref b1), .null]) (rest := [(.ref b4)]) (lenOf pd___ILjava_util_Map__V rfl) rfl (by show 2 * 0 + _ ≤ _; exact Nat.le_of_eq rfl) (hb hby at_59) (fun _ _ => ⟨rfl, e4, (by decide : 2 + 0 ≤ _), (by decide : 3 + 0 ≤ _)⟩)
  dsimp only [Pt.U, Pt.locs, Pt.cells, Pt.slots] at X8 l8 y8 z8 st8 hQ8
  subst l8 y8 z8
  obtain ⟨rfl, Nq8, Kq8, q8_0, q8_1, q8_2, q8_3⟩ := hQ8
  have N8 := Fr.app N0 Nq8
  have K9 : Keep h0 T8.heap [] := K5.trans Kq8 (allS (Or.inr B4) all0)
  refine own_tr st8 ?_
  show own_Go p e below T8 (mkF m 62 #[.val (.int p0), .val (.int x0), .val (.int x1), .val (.int x2), .val (.int (0 : Int32)), .val (.ref b1), .unset, .unset, .unset, .unset, .unset, .unset, .unset, .unset, .unset, .unset, .unset, .unset, .unset] [(.ref b4)]) _
  refine own_st (fun t_ k_ => XS.astore X8.here hx rfl (hb hby at_62) rfl rfl (l' := #[.val (.int p0), .val (.int x0), .val (.int x1), .val (.int x2), .val (.int (0 : Int32)), .val (.ref b1), .val (.ref b4), .unset, .unset, .unset, .unset, .unset, .unset, .unset, .unset, .unset, .unset, .unset, .unset]) rfl k_) ?_
  show own_Go p e below T8 (mkF m 64 #[.val (.int p0), .val (.int x0), .val (.int x1), .val (.int x2), .val (.int (0 : Int32)), .val (.ref b1), .val (.ref b4), .unset, .unset, .unset, .unset, .unset, .unset, .unset, .unset, .unset, .unset, .unset, .unset] []) _
  refine own_st (fun t_ k_ => XS.aload X8.here hx rfl (hb hby at_64) rfl rfl k_) ?_
  show own_Go p e below T8 (mkF m 66 #[.val (.int p0), .val (.int x0), .val (.int x1), .val (.int x2), .val (.int (0 : Int32)), .val (.ref b1), .val (.ref b4), .unset, .unset, .unset, .unset, .unset, .unset, .unset, .unset, .unset, .unset, .unset, .unset] [(.ref b4)]) _
  have f10 := (Nat.le_trans f6 Kq8.1)
  obtain ⟨cq11, kq11, qa11, qb11, qc11⟩ := isOf hZ rfl q8_0
  obtain ⟨_, _, ⟨T11, L11, k11, n11⟩, -, X11, ⟨Lc11, hQ11, l11, y11, z11⟩, st11⟩ := X8.virtualBack hx (y := (⟨"com/example/descriptor/descriptor/engine/index/InvertedField", "averageLength", "()D"⟩ : MethodName)) (z := (⟨"com/example/descriptor/descriptor/engine/index/InvertedField", "averageLength", "()D"⟩ : MethodName)) hown (mvT hZ (hw _ (List.mem_of_getElem? (i := 16) rfl))) (mvT hZ (hw _ (List.mem_of_getElem? (i := 17) rfl))) (notFace_of_selects (args := #[]) (mvT hZ (hw _ (List.mem_of_getElem? (i := 19) rfl)))) (mvT hZ (hw _ (List.mem_of_getElem? (i := 19) rfl))) (mvT hZ (hw _ (List.mem_of_getElem? (i := 18) rfl))) (by decide) (backOf (W := 0) (rmAv0 l Z a0 hw [] b4 b1 k1 ((0 : Int64)) T8.heap n0 f10 q8_1 q8_2 q8_3) hZ (hw _ (List.mem_of_getElem? (i := 20) rfl)) (hw _ (List.mem_of_getElem? (i := 3) rfl)) (by decide) (by decide)) qa11 qc11 (g := (mkF m 66 #[.val (.int p0), .val (.int x0), .val (.int x1), .val (.int x2), .val (.int (0 : Int32)), .val (.ref b1), .val (.ref b4), .unset, .unset, .unset, .unset, .unset, .unset, .unset, .unset, .unset, .unset, .unset, .unset] [(.ref b4)])) rfl (by rw [hml]; rfl) (Steps.refl _) (argsL := []) (rest := []) (lenOf pd___D rfl) rfl (by show 2 * 0 + _ ≤ _; exact Nat.le_of_eq rfl) (hb hby at_66) (fun _ _ => ⟨rfl, rfl, (by decide : 2 + 0 ≤ _), (by decide : 3 + 0 ≤ _)⟩)
  dsimp only [Pt.U, Pt.locs, Pt.cells, Pt.slots] at X11 l11 y11 z11 st11 hQ11
  subst l11 y11 z11
  obtain ⟨rfl, Nq11, eH11⟩ := hQ11
  have N11 := Fr.app N8 Nq11
  refine own_tr st11 ?_
  show own_Go p e below T11 (mkF m 69 #[.val (.int p0), .val (.int x0), .val (.int x1), .val (.int x2), .val (.int (0 : Int32)), .val (.ref b1), .val (.ref b4), .unset, .unset, .unset, .unset, .unset, .unset, .unset, .unset, .unset, .unset, .unset, .unset] [(.double FP.dconst0)]) _
  refine own_st (fun t_ k_ => XS.dstore X11.here hx rfl (hb hby at_69) rfl (l' := #[.val (.int p0), .val (.int x0), .val (.int x1), .val (.int x2), .val (.int (0 : Int32)), .val (.ref b1), .val (.ref b4), .val (.double FP.dconst0), .second, .unset, .unset, .unset, .unset, .unset, .unset, .unset, .unset, .unset, .unset]) rfl k_) ?_
  show own_Go p e below T11 (mkF m 71 #[.val (.int p0), .val (.int x0), .val (.int x1), .val (.int x2), .val (.int (0 : Int32)), .val (.ref b1), .val (.ref b4), .val (.double FP.dconst0), .second, .unset, .unset, .unset, .unset, .unset, .unset, .unset, .unset, .unset, .unset] []) _
  refine own_st (fun t_ k_ => XS.iload X11.here hx rfl (hb hby at_71) rfl k_) ?_
  show own_Go p e below T11 (mkF m 73 #[.val (.int p0), .val (.int x0), .val (.int x1), .val (.int x2), .val (.int (0 : Int32)), .val (.ref b1), .val (.ref b4), .val (.double FP.dconst0), .second, .unset, .unset, .unset, .unset, .unset, .unset, .unset, .unset, .unset, .unset] [(.int (0 : Int32))]) _
  refine own_st (fun t_ k_ => XS.ifNo X11.here hx rfl (hb hby at_73) rfl (by decide) k_) ?_
  show own_Go p e below T11 (mkF m 76 #[.val (.int p0), .val (.int x0), .val (.int x1), .val (.int x2), .val (.int (0 : Int32)), .val (.ref b1), .val (.ref b4), .val (.double FP.dconst0), .second, .unset, .unset, .unset, .unset, .unset, .unset, .unset, .unset, .unset, .unset] []) _
  refine own_st (fun t_ k_ => XS.dload X11.here hx rfl (hb hby at_76) rfl k_) ?_
  show own_Go p e below T11 (mkF m 78 #[.val (.int p0), .val (.int x0), .val (.int x1), .val (.int x2), .val (.int (0 : Int32)), .val (.ref b1), .val (.ref b4), .val (.double FP.dconst0), .second, .unset, .unset, .unset, .unset, .unset, .unset, .unset, .unset, .unset, .unset] [(.double FP.dconst0)]) _
  refine own_st (fun t_ k_ => XS.dconst0 X11.here hx rfl (hb hby at_78) rfl k_) ?_
  show own_Go p e below T11 (mkF m 79 #[.val (.int p0), .val (.int x0), .val (.int x1), .val (.int x2), .val (.int (0 : Int32)), .val (.ref b1), .val (.ref b4), .val (.double FP.dconst0), .second, .unset, .unset, .unset, .unset, .unset, .unset, .unset, .unset, .unset, .unset] [(.double FP.dconst0), (.double FP.dconst0)]) _
  refine own_st (fun t_ k_ => XS.dcmpS X11.here hx rfl (hb hby at_79) rfl own_zero_self k_) ?_
  show own_Go p e below T11 (mkF m 80 #[.val (.int p0), .val (.int x0), .val (.int x1), .val (.int x2), .val (.int (0 : Int32)), .val (.ref b1), .val (.ref b4), .val (.double FP.dconst0), .second, .unset, .unset, .unset, .unset, .unset, .unset, .unset, .unset, .unset, .unset] [(.int (0 : Int32))]) _
  refine own_st (fun t_ k_ => XS.ifNo X11.here hx rfl (hb hby at_80) rfl (by decide) k_) ?_
  show own_Go p e below T11 (mkF m 83 #[.val (.int p0), .val (.int x0), .val (.int x1), .val (.int x2), .val (.int (0 : Int32)), .val (.ref b1), .val (.ref b4), .val (.double FP.dconst0), .second, .unset, .unset, .unset, .unset, .unset, .unset, .unset, .unset, .unset, .unset] []) _
  refine own_st (fun t_ k_ => XS.iconst X11.here hx rfl (hb hby at_83) k_) ?_
  show own_Go p e below T11 (mkF m 84 #[.val (.int p0), .val (.int x0), .val (.int x1), .val (.int x2), .val (.int (0 : Int32)), .val (.ref b1), .val (.ref b4), .val (.double FP.dconst0), .second, .unset, .unset, .unset, .unset, .unset, .unset, .unset, .unset, .unset, .unset] [(.int (1 : Int32))]) _
  refine own_st (fun t_ k_ => XS.goto X11.here hx rfl (pc0 := 84) (pc' := 88) rfl (hb hby at_84) (by decide) (by decide) k_) ?_
  show own_Go p e below T11 (mkF m 88 #[.val (.int p0), .val (.int x0), .val (.int x1), .val (.int x2), .val (.int (0 : Int32)), .val (.ref b1), .val (.ref b4), .val (.double FP.dconst0), .second, .unset, .unset, .unset, .unset, .unset, .unset, .unset, .unset, .unset, .unset] [(.int (1 : Int32))]) _
  obtain ⟨fs, hr, hrun, hended, hW, hsame⟩ := X11.leave (v := some (.int (1 : Int32))) (fun h => by rw [Bd.returns] at h; cases h)
  refine own_fin (retN X11 hx (t := .boolean) Bd.returns (by simp) (hb hby at_88) hr) ⟨hrun, hended, _, _, rfl, ?_, ⟨_, rfl⟩, hW, hsame.mono (by decide) (by decide)⟩
  show Q_rmLaw0 Z p0 x0 x1 x2 h0 n0 _ T11.heap _
  rw [eH11]
  exact ⟨rfl, N11, K9⟩
theorem ef_rmLaw1 (m : MethodId) (x0 : Int32) (x1 : Int32) (x2 : Int32) (x3 : Int32) : entryFrame m #[(.int x0), (.int x1), (.int x2), (.int x3)] maxLocals = mkF m 0 #[.val (.int x0), .val (.int x1), .val (.int x2), .val (.int x3), .unset, .unset, .unset, .unset, .unset, .unset, .unset, .unset, .unset, .unset, .unset, .unset, .unset, .unset, .unset] [] := by first | (simp [entryFrame, mkF, argsToLocals, Value.category, maxLocals]; done) | rfl
def Q_rmLaw1 (Z : State) (p0 : Int32) (x0 : Int32) (x1 : Int32) (x2 : Int32) (h0 : Heap) (n0 : Nat) (v : Option Value) (h : Heap) (L : List Loc) : Prop := v = some (.int (1 : Int32)) ∧ Fr n0 L ∧ Keep h0 h []
set_option maxRecDepth 65536 in
set_option maxHeartbeats 40000000 in
theorem rmLaw1 (l : Launch) (Z : State) (a0 : Array Value) (hw : ∀ d ∈ tables_1, d.before a0 Z = true) (ws : List Jvm.Cond) (p0 : Int32) (x0 : Int32) (x1 : Int32) (x2 : Int32) (h0 : Heap) (n0 : Nat) (Z0 : n0 ≤ h0.size) (hn : (p0 &&& (3 : Int32) = (1 : Int32))) :
    MetFree l x (head1 (Jvm.Cond.code x code maxLocals ret :: ws) room_1) (fun a U => a = #[(.int p0), (.int x0), (.int x1), (.int x2)] ∧ Z.Warmed39 U.vm ∧ U.heap = h0) (fun _ _ _ _ _ => True) (fun _ U o U' => ∃ v L, o = .returned v ∧ Q_rmLaw1 Z p0 x0 x1 x2 h0 n0 v U'.heap L ∧ FrameEnd U o U' L 16 128) := by
  refine MetFree.of_bodySF (plainFor_of_name pn_0) hisR ?_
  intro p e s m args below meth c s₁ Bd hml0 hP hK
  obtain ⟨rfl, hZ, hh⟩ := hP
  have hx := Bd.exec
  have hby := Bd.bytes
  have hml : c.maxLocals = 19 := hml0
  have hown : s.vm.findClass "com/example/descriptor/descriptor/engine/index/InvertedFieldAverageLengthPinLaw" = some m.cls := findClass_of_methodNamed Bd.named
  have hnm := (name_of_methodNamed Bd.named Bd.method).1
  have X0 : Stand p l e room_1 s m #[(.int p0), (.int x0), (.int x1), (.int x2)] below meth c s₁ [] 0 0 := Stand.of_body Bd
  have e0 : s₁.heap = h0 := by rw [← hh, Bd.state]; rfl
  have N0 := Fr.nil n0
  refine own_enter (ef_rmLaw1 m p0 x0 x1 x2) ?_
  refine own_st (fun t_ k_ => XS.iloadN X0.here hx rfl (hb hby at_0) rfl k_) ?_
  show own_Go p e below s₁ (mkF m 1 #[.val (.int p0), .val (.int x0), .val (.int x1), .val (.int x2), .unset, .unset, .unset, .unset, .unset, .unset, .unset, .unset, .unset, .unset, .unset, .unset, .unset, .unset, .unset] [(.int p0)]) _
  refine own_st (fun t_ k_ => XS.iconst X0.here hx rfl (hb hby at_1) k_) ?_
  show own_Go p e below s₁ (mkF m 2 #[.val (.int p0), .val (.int x0), .val (.int x1), .val (.int x2), .unset, .unset, .unset, .unset, .unset, .unset, .unset, .unset, .unset, .unset, .unset, .unset, .unset, .unset, .unset] [(.int (3 : Int32)), (.int p0)]) _
  refine own_st (fun t_ k_ => XS.iand X0.here hx rfl (hb hby at_2) rfl k_) ?_
  show own_Go p e below s₁ (mkF m 3 #[.val (.int p0), .val (.int x0), .val (.int x1), .val (.int x2), .unset, .unset, .unset, .unset, .unset, .unset, .unset, .unset, .unset, .unset, .unset, .unset, .unset, .unset, .unset] [(.int (p0 &&& (3 : Int32)))]) _
  rw [hn]
  show own_Go p e below s₁ (mkF m 3 #[.val (.int p0), .val (.int x0), .val (.int x1), .val (.int x2), .unset, .unset, .unset, .unset, .unset, .unset, .unset, .unset, .unset, .unset, .unset, .unset, .unset, .unset, .unset] [(.int (1 : Int32))]) _
  refine own_st (fun t_ k_ => XS.istore X0.here hx rfl (hb hby at_3) rfl (l' := #[.val (.int p0), .val (.int x0), .val (.int x1), .val (.int x2), .val (.int (1 : Int32)), .unset, .unset, .unset, .unset, .unset, .unset, .unset, .unset, .unset, .unset, .unset, .unset, .unset, .unset]) rfl k_) ?_
  show own_Go p e below s₁ (mkF m 5 #[.val (.int p0), .val (.int x0), .val (.int x1), .val (.int x2), .val (.int (1 : Int32)), .unset, .unset, .unset, .unset, .unset, .unset, .unset, .unset, .unset, .unset, .unset, .unset, .unset, .unset] []) _
  refine own_st (fun t_ k_ => XS.iload X0.here hx rfl (hb hby at_5) rfl k_) ?_
  show own_Go p e below s₁ (mkF m 7 #[.val (.int p0), .val (.int x0), .val (.int x1), .val (.int x2), .val (.int (1 : Int32)), .unset, .unset, .unset, .unset, .unset, .unset, .unset, .unset, .unset, .unset, .unset, .unset, .unset, .unset] [(.int (1 : Int32))]) _
  refine own_st (fun t_ k_ => XS.iconst X0.here hx rfl (hb hby at_7) k_) ?_
  show own_Go p e below s₁ (mkF m 8 #[.val (.int p0), .val (.int x0), .val (.int x1), .val (.int x2), .val (.int (1 : Int32)), .unset, .unset, .unset, .unset, .unset, .unset, .unset, .unset, .unset, .unset, .unset, .unset, .unset, .unset] [(.int (3 : Int32)), (.int (1 : Int32))]) _
  refine own_st (fun t_ k_ => XS.icmpYes X0.here hx rfl (pc0 := 8) (pc' := 14) rfl (hb hby at_8) rfl (by decide) (by decide) (by decide) k_) ?_
  show own_Go p e below s₁ (mkF m 14 #[.val (.int p0), .val (.int x0), .val (.int x1), .val (.int x2), .val (.int (1 : Int32)), .unset, .unset, .unset, .unset, .unset, .unset, .unset, .unset, .unset, .unset, .unset, .unset, .unset, .unset] []) _
  refine own_st (fun t_ k_ => XS.iload X0.here hx rfl (hb hby at_14) rfl k_) ?_
  show own_Go p e below s₁ (mkF m 16 #[.val (.int p0), .val (.int x0), .val (.int x1), .val (.int x2), .val (.int (1 : Int32)), .unset, .unset, .unset, .unset, .unset, .unset, .unset, .unset, .unset, .unset, .unset, .unset, .unset, .unset] [(.int (1 : Int32))]) _
  obtain ⟨T1, h1, k1, X1, e1, E1, A1, st1⟩ := newP X0 hx hZ (hw _ (List.mem_of_getElem? (i := 0) rfl)) e0 (g := (mkF m 16 #[.val (.int p0), .val (.int x0), .val (.int x1), .val (.int x2), .val (.int (1 : Int32)), .unset, .unset, .unset, .unset, .unset, .unset, .unset, .unset, .unset, .unset, .unset, .unset, .unset, .unset] [(.int (1 : Int32))])) rfl (hb hby at_16) rfl (by decide) (cap := 1) (by decide) (by decide) (by decide) (by decide)
  obtain ⟨b1, g1⟩ : ∃ z, z = h0.size := ⟨_, rfl⟩
  rw [← g1] at A1 st1
  have G1 : n0 ≤ b1 := Nat.le_trans Z0 (Nat.le_of_eq g1.symm)
  have B1 : h0.size ≤ b1 := Nat.le_trans (Keep.refl h0 []).1 (Nat.le_of_eq g1.symm)
  have K2 : Keep h0 h1 [] := (Keep.refl h0 []).ext E1
  have V1 : Arv Z h1 b1 k1 .int (1 : Int32) [(.int (0 : Int32))] (.int (0 : Int32)) := (Arv.new A1 (by decide)).pad (pad_rep [] (.int (0 : Int32)) 1)
  refine own_st st1 ?_
  show own_Go p e below T1 (mkF m 18 #[.val (.int p0), .val (.int x0), .val (.int x1), .val (.int x2), .val (.int (1 : Int32)), .unset, .unset, .unset, .unset, .unset, .unset, .unset, .unset, .unset, .unset, .unset, .unset, .unset, .unset] [(.ref b1)]) _
  refine own_st (fun t_ k_ => XS.astore X1.here hx rfl (hb hby at_18) rfl rfl (l' := #[.val (.int p0), .val (.int x0), .val (.int x1), .val (.int x2), .val (.int (1 : Int32)), .val (.ref b1), .unset, .unset, .unset, .unset, .unset, .unset, .unset, .unset, .unset, .unset, .unset, .unset, .unset]) rfl k_) ?_
  show own_Go p e below T1 (mkF m 20 #[.val (.int p0), .val (.int x0), .val (.int x1), .val (.int x2), .val (.int (1 : Int32)), .val (.ref b1), .unset, .unset, .unset, .unset, .unset, .unset, .unset, .unset, .unset, .unset, .unset, .unset, .unset] []) _
  refine own_st (fun t_ k_ => XS.iload X1.here hx rfl (hb hby at_20) rfl k_) ?_
  show own_Go p e below T1 (mkF m 22 #[.val (.int p0), .val (.int x0), .val (.int x1), .val (.int x2), .val (.int (1 : Int32)), .val (.ref b1), .unset, .unset, .unset, .unset, .unset, .unset, .unset, .unset, .unset, .unset, .unset, .unset, .unset] [(.int (1 : Int32))]) _
  refine own_st (fun t_ k_ => XS.ifNo X1.here hx rfl (hb hby at_22) rfl (by decide) k_) ?_
  show own_Go p e below T1 (mkF m 25 #[.val (.int p0), .val (.int x0), .val (.int x1), .val (.int x2), .val (.int (1 : Int32)), .val (.ref b1), .unset, .unset, .unset, .unset, .unset, .unset, .unset, .unset, .unset, .unset, .unset, .unset, .unset] []) _
  refine own_st (fun t_ k_ => XS.aload X1.here hx rfl (hb hby at_25) rfl rfl k_) ?_
  show own_Go p e below T1 (mkF m 27 #[.val (.int p0), .val (.int x0), .val (.int x1), .val (.int x2), .val (.int (1 : Int32)), .val (.ref b1), .unset, .unset, .unset, .unset, .unset, .unset, .unset, .unset, .unset, .unset, .unset, .unset, .unset] [(.ref b1)]) _
  refine own_st (fun t_ k_ => XS.iconst X1.here hx rfl (hb hby at_27) k_) ?_
  show own_Go p e below T1 (mkF m 28 #[.val (.int p0), .val (.int x0), .val (.int x1), .val (.int x2), .val (.int (1 : Int32)), .val (.ref b1), .unset, .unset, .unset, .unset, .unset, .unset, .unset, .unset, .unset, .unset, .unset, .unset, .unset] [(.int (0 : Int32)), (.ref b1)]) _
  refine own_st (fun t_ k_ => XS.iloadN X1.here hx rfl (hb hby at_28) rfl k_) ?_
  show own_Go p e below T1 (mkF m 29 #[.val (.int p0), .val (.int x0), .val (.int x1), .val (.int x2), .val (.int (1 : Int32)), .val (.ref b1), .unset, .unset, .unset, .unset, .unset, .unset, .unset, .unset, .unset, .unset, .unset, .unset, .unset] [(.int x0), (.int (0 : Int32)), (.ref b1)]) _
  obtain ⟨cl3, Ar3, q3, Sz3, Nn3, Hh3, Gg3⟩ := id V1
  have hin3 : ¬ ((0 : Int32) < 0 ∨ cl3.slots.size ≤ ((0 : Int32)).toNatClampNeg) := inb_of Sz3 ⟨by decide, by decide⟩
  obtain ⟨T4, h4, X4, e4, W4, st4⟩ := stI X1 hx hZ e1 Ar3 (j := (0 : Int32)) hin3 (g := (mkF m 29 #[.val (.int p0), .val (.int x0), .val (.int x1), .val (.int x2), .val (.int (1 : Int32)), .val (.ref b1), .unset, .unset, .unset, .unset, .unset, .unset, .unset, .unset, .unset, .unset, .unset, .unset, .unset] [(.int x0), (.int (0 : Int32)), (.ref b1)])) rfl rfl (hb hby at_29)
  have V4 : Arv Z h4 b1 k1 .int (1 : Int32) [(.int x0)] (.int (0 : Int32)) := Arv.set Ar3 q3 Sz3 Nn3 Hh3 Gg3 rfl W4 0 rfl (Nat.le_of_ble_eq_true rfl)
  have K5 : Keep h0 h4 [] := K2.wr W4 (Or.inr B1)
  have N4 := Fr.snoc X4 N0 G1
  refine own_st st4 ?_
  show own_Go p e below T4 (mkF m 30 #[.val (.int p0), .val (.int x0), .val (.int x1), .val (.int x2), .val (.int (1 : Int32)), .val (.ref b1), .unset, .unset, .unset, .unset, .unset, .unset, .unset, .unset, .unset, .unset, .unset, .unset, .unset] []) _
  refine own_st (fun t_ k_ => XS.iload X4.here hx rfl (hb hby at_30) rfl k_) ?_
  show own_Go p e below T4 (mkF m 32 #[.val (.int p0), .val (.int x0), .val (.int x1), .val (.int x2), .val (.int (1 : Int32)), .val (.ref b1), .unset, .unset, .unset, .unset, .unset, .unset, .unset, .unset, .unset, .unset, .unset, .unset, .unset] [(.int (1 : Int32))]) _
  refine own_st (fun t_ k_ => XS.iconst X4.here hx rfl (hb hby at_32) k_) ?_
  show own_Go p e below T4 (mkF m 33 #[.val (.int p0), .val (.int x0), .val (.int x1), .val (.int x2), .val (.int (1 : Int32)), .val (.ref b1), .unset, .unset, .unset, .unset, .unset, .unset, .unset, .unset, .unset, .unset, .unset, .unset, .unset] [(.int (1 : Int32)), (.int (1 : Int32))]) _
  refine own_st (fun t_ k_ => XS.icmpYes X4.here hx rfl (pc0 := 33) (pc' := 41) rfl (hb hby at_33) rfl (by decide) (by decide) (by decide) k_) ?_
  show own_Go p e below T4 (mkF m 41 #[.val (.int p0), .val (.int x0), .val (.int x1), .val (.int x2), .val (.int (1 : Int32)), .val (.ref b1), .unset, .unset, .unset, .unset, .unset, .unset, .unset, .unset, .unset, .unset, .unset, .unset, .unset] []) _
  refine own_st (fun t_ k_ => XS.iload X4.here hx rfl (hb hby at_41) rfl k_) ?_
  show own_Go p e below T4 (mkF m 43 #[.val (.int p0), .val (.int x0), .val (.int x1), .val (.int x2), .val (.int (1 : Int32)), .val (.ref b1), .unset, .unset, .unset, .unset, .unset, .unset, .unset, .unset, .unset, .unset, .unset, .unset, .unset] [(.int (1 : Int32))]) _
  refine own_st (fun t_ k_ => XS.iconst X4.here hx rfl (hb hby at_43) k_) ?_
  show own_Go p e below T4 (mkF m 44 #[.val (.int p0), .val (.int x0), .val (.int x1), .val (.int x2), .val (.int (1 : Int32)), .val (.ref b1), .unset, .unset, .unset, .unset, .unset, .unset, .unset, .unset, .unset, .unset, .unset, .unset, .unset] [(.int (2 : Int32)), (.int (1 : Int32))]) _
  refine own_st (fun t_ k_ => XS.icmpYes X4.here hx rfl (pc0 := 44) (pc' := 52) rfl (hb hby at_44) rfl (by decide) (by decide) (by decide) k_) ?_
  show own_Go p e below T4 (mkF m 52 #[.val (.int p0), .val (.int x0), .val (.int x1), .val (.int x2), .val (.int (1 : Int32)), .val (.ref b1), .unset, .unset, .unset, .unset, .unset, .unset, .unset, .unset, .unset, .unset, .unset, .unset, .unset] []) _
  have f6 := (Nat.le_trans (Nat.le_trans Z0 E1.1) (Keep.of_wr W4).1)
  obtain ⟨T7, h7, X7, e7, E7, A7, D7, -, st7⟩ := newO X4 hx hZ hown (hw _ (List.mem_of_getElem? (i := 1) rfl)) (hw _ (List.mem_of_getElem? (i := 2) rfl)) (hw _ (List.mem_of_getElem? (i := 3) rfl)) e4 (g := (mkF m 52 #[.val (.int p0), .val (.int x0), .val (.int x1), .val (.int x2), .val (.int (1 : Int32)), .val (.ref b1), .unset, .unset, .unset, .unset, .unset, .unset, .unset, .unset, .unset, .unset, .unset, .unset, .unset] [])) rfl (hb hby at_52) (by decide) (by decide)
  obtain ⟨b7, g7⟩ : ∃ z, z = h4.size := ⟨_, rfl⟩
  rw [← g7] at A7 D7 st7
  have G7 : n0 ≤ b7 := Nat.le_trans f6 (Nat.le_of_eq g7.symm)
  have B7 : h0.size ≤ b7 := Nat.le_trans K5.1 (Nat.le_of_eq g7.symm)
  have K8 : Keep h0 h7 [] := K5.ext E7
  have D7_lengths : Fld Z h7 b7 "com/example/descriptor/descriptor/engine/index/InvertedField" "lengths" "[I" .null := D7 (Or.inr (hw _ (List.mem_of_getElem? (i := 11) rfl))) (ty := (.array .int)) (by decide)
  have D7_postings : Fld Z h7 b7 "com/example/descriptor/descriptor/engine/index/InvertedField" "postings" "Ljava/util/Map;" .null := D7 (Or.inr (hw _ (List.mem_of_getElem? (i := 13) rfl))) (ty := (.object "java/util/Map")) (by decide)
  have D7_totalLength : Fld Z h7 b7 "com/example/descriptor/descriptor/engine/index/InvertedField" "totalLength" "J" (.long (0 : Int64)) := D7 (Or.inr (hw _ (List.mem_of_getElem? (i := 15) rfl))) (ty := .long) (by decide)
  refine own_st st7 ?_
  show own_Go p e below T7 (mkF m 55 #[.val (.int p0), .val (.int x0), .val (.int x1), .val (.int x2), .val (.int (1 : Int32)), .val (.ref b1), .unset, .unset, .unset, .unset, .unset, .unset, .unset, .unset, .unset, .unset, .unset, .unset, .unset] [(.ref b7)]) _
  refine own_st (fun t_ k_ => XS.dup X7.here hx rfl (hb hby at_55) rfl rfl k_) ?_
  show own_Go p e below T7 (mkF m 56 #[.val (.int p0), .val (.int x0), .val (.int x1), .val (.int x2), .val (.int (1 : Int32)), .val (.ref b1), .unset, .unset, .unset, .unset, .unset, .unset, .unset, .unset, .unset, .unset, .unset, .unset, .unset] [(.ref b7), (.ref b7)]) _
  refine own_st (fun t_ k_ => XS.aload X7.here hx rfl (hb hby at_56) rfl rfl k_) ?_
  show own_Go p e below T7 (mkF m 58 #[.val (.int p0), .val (.int x0), .val (.int x1), .val (.int x2), .val (.int (1 : Int32)), .val (.ref b1), .unset, .unset, .unset, .unset, .unset, .unset, .unset, .unset, .unset, .unset, .unset, .unset, .unset] [(.ref b1), (.ref b7), (.ref b7)]) _
  refine own_st (fun t_ k_ => XS.aconstNull X7.here hx rfl (hb hby at_58) k_) ?_
  show own_Go p e below T7 (mkF m 59 #[.val (.int p0), .val (.int x0), .val (.int x1), .val (.int x2), .val (.int (1 : Int32)), .val (.ref b1), .unset, .unset, .unset, .unset, .unset, .unset, .unset, .unset, .unset, .unset, .unset, .unset, .unset] [.null, (.ref b1), (.ref b7), (.ref b7)]) _
  have f9 := (Nat.le_trans f6 E7.1)
  have f10 := (V4.ext E7)
  obtain ⟨_, _, ⟨T11, L11, k11, n11⟩, -, X11, ⟨Lc11, hQ11, l11, y11, z11⟩, st11⟩ := X7.specialBack hx (y := (⟨"com/example/descriptor/descriptor/engine/index/InvertedField", "<init>", "([ILjava/util/Map;)V"⟩ : MethodName)) rfl hown (mvT hZ (hw _ (List.mem_of_getElem? (i := 4) rfl))) (mvT hZ (hw _ (List.mem_of_getElem? (i := 5) rfl))) (mvT hZ (hw _ (List.mem_of_getElem? (i := 6) rfl))) (by decide) (backOf (W := 1) (rmIn1 l Z a0 hw [] b7 b1 k1 _ .null .null ((.long (0 : Int64))) h7 n0 f9 A7 D7_lengths D7_postings D7_totalLength G7 f10) hZ (hw _ (List.mem_of_getElem? (i := 6) rfl)) (hw _ (List.mem_of_getElem? (i := 3) rfl)) (by decide) (by decide)) (g := (mkF m 59 #[.val (.int p0), .val (.int x0), .val (.int x1), .val (.int x2), .val (.int (1 : Int32)), .val (.ref b1), .unset, .unset, .unset, .unset, .unset, .unset, .unset, .unset, .unset, .unset, .unset, .unset, .unset] [.null, (.ref b1), (.ref b7), (.ref b7)])) rfl (by rw [hml]; rfl) (Steps.refl _) (a := b7) (argsL := [(.ref b1), .null]) (rest := [(.ref b7)]) (lenOf pd___ILjava_util_Map__V rfl) rfl (by show 2 * 0 + _ ≤ _; exact Nat.le_of_eq rfl) (hb hby at_59) (fun _ _ => ⟨rfl, e7, (by decide : 2 + 0 ≤ _), (by decide : 4 + 0 ≤ _)⟩)
  dsimp only [Pt.U, Pt.locs, Pt.cells, Pt.slots] at X11 l11 y11 z11 st11 hQ11
  subst l11 y11 z11
  obtain ⟨rfl, Nq11, Kq11, q11_0, q11_1, q11_2, q11_3⟩ := hQ11
  have N11 := Fr.app N4 Nq11
  have K12 : Keep h0 T11.heap [] := K8.trans Kq11 (allS (Or.inr B7) all0)
  refine own_tr st11 ?_
  show own_Go p e below T11 (mkF m 62 #[.val (.int p0), .val (.int x0), .val (.int x1), .val (.int x2), .val (.int (1 : Int32)), .val (.ref b1), .unset, .unset, .unset, .unset, .unset, .unset, .unset, .unset, .unset, .unset, .unset, .unset, .unset] [(.ref b7)]) _
  refine own_st (fun t_ k_ => XS.astore X11.here hx rfl (hb hby at_62) rfl rfl (l' := #[.val (.int p0), .val (.int x0), .val (.int x1), .val (.int x2), .val (.int (1 : Int32)), .val (.ref b1), .val (.ref b7), .unset, .unset, .unset, .unset, .unset, .unset, .unset, .unset, .unset, .unset, .unset, .unset]) rfl k_) ?_
  show own_Go p e below T11 (mkF m 64 #[.val (.int p0), .val (.int x0), .val (.int x1), .val (.int x2), .val (.int (1 : Int32)), .val (.ref b1), .val (.ref b7), .unset, .unset, .unset, .unset, .unset, .unset, .unset, .unset, .unset, .unset, .unset, .unset] []) _
  refine own_st (fun t_ k_ => XS.aload X11.here hx rfl (hb hby at_64) rfl rfl k_) ?_
  show own_Go p e below T11 (mkF m 66 #[.val (.int p0), .val (.int x0), .val (.int x1), .val (.int x2), .val (.int (1 : Int32)), .val (.ref b1), .val (.ref b7), .unset, .unset, .unset, .unset, .unset, .unset, .unset, .unset, .unset, .unset, .unset, .unset] [(.ref b7)]) _
  have e_x0 : x0.toInt64.toInt = x0.toInt := Int32.toInt_toInt64 x0
  have r_x0 := rng32 x0
  have e_x1 : x1.toInt64.toInt = x1.toInt := Int32.toInt_toInt64 x1
  have r_x1 := rng32 x1
  have e_x2 : x2.toInt64.toInt = x2.toInt := Int32.toInt_toInt64 x2
  have r_x2 := rng32 x2
  have s0 : ((0 : Int64) + (x0.toInt64)).toInt = x0.toInt := by
    have h := c_ladd (0 : Int64) x0.toInt64
    have rr := rng64 ((0 : Int64) + x0.toInt64)
    have z0 : (0 : Int64).toInt = 0 := rfl
    omega
  have hsame : (x0.toInt64) = ((0 : Int64) + (x0.toInt64)) := by
    rw [Int64.zero_add]
  have hs : ((0 : Int64) + (x0.toInt64)).toInt.natAbs ≤ 2 ^ 53 := by rw [s0]; omega
  have f13 := (Nat.le_trans f9 Kq11.1)
  obtain ⟨cq14, kq14, qa14, qb14, qc14⟩ := isOf hZ rfl q11_0
  obtain ⟨_, _, ⟨T14, L14, k14, n14⟩, -, X14, ⟨Lc14, hQ14, l14, y14, z14⟩, st14⟩ := X11.virtualBack hx (y := (⟨"com/example/descriptor/descriptor/engine/index/InvertedField", "averageLength", "()D"⟩ : MethodName)) (z := (⟨"com/example/descriptor/descriptor/engine/index/InvertedField", "averageLength", "()D"⟩ : MethodName)) hown (mvT hZ (hw _ (List.mem_of_getElem? (i := 16) rfl))) (mvT hZ (hw _ (List.mem_of_getElem? (i := 17) rfl))) (notFace_of_selects (args := #[]) (mvT hZ (hw _ (List.mem_of_getElem? (i := 19) rfl)))) (mvT hZ (hw _ (List.mem_of_getElem? (i := 19) rfl))) (mvT hZ (hw _ (List.mem_of_getElem? (i := 18) rfl))) (by decide) (backOf (W := 0) (rmAv1 l Z a0 hw [] b7 b1 k1 _ (((0 : Int64) + (x0.toInt64))) T11.heap n0 f13 q11_1 q11_2 q11_3 hs) hZ (hw _ (List.mem_of_getElem? (i := 20) rfl)) (hw _ (List.mem_of_getElem? (i := 3) rfl)) (by decide) (by decide)) qa14 qc14 (g := (mkF m 66 #[.val (.int p0), .val (.int x0), .val (.int x1), .val (.int x2), .val (.int (1 : Int32)), .val (.ref b1), .val (.ref b7), .unset, .unset, .unset, .unset, .unset, .unset, .unset, .unset, .unset, .unset, .unset, .unset] [(.ref b7)])) rfl (by rw [hml]; rfl) (Steps.refl _) (argsL := []) (rest := []) (lenOf pd___D rfl) rfl (by show 2 * 0 + _ ≤ _; exact Nat.le_of_eq rfl) (hb hby at_66) (fun _ _ => ⟨rfl, rfl, (by decide : 2 + 0 ≤ _), (by decide : 4 + 0 ≤ _)⟩)
  dsimp only [Pt.U, Pt.locs, Pt.cells, Pt.slots] at X14 l14 y14 z14 st14 hQ14
  subst l14 y14 z14
  obtain ⟨rfl, Nq14, eH14⟩ := hQ14
  have N14 := Fr.app N11 Nq14
  refine own_tr st14 ?_
  show own_Go p e below T14 (mkF m 69 #[.val (.int p0), .val (.int x0), .val (.int x1), .val (.int x2), .val (.int (1 : Int32)), .val (.ref b1), .val (.ref b7), .unset, .unset, .unset, .unset, .unset, .unset, .unset, .unset, .unset, .unset, .unset, .unset] [(.double (own_avg ((0 : Int64) + (x0.toInt64)) (1 : Int32)))]) _
  refine own_st (fun t_ k_ => XS.dstore X14.here hx rfl (hb hby at_69) rfl (l' := #[.val (.int p0), .val (.int x0), .val (.int x1), .val (.int x2), .val (.int (1 : Int32)), .val (.ref b1), .val (.ref b7), .val (.double (own_avg ((0 : Int64) + (x0.toInt64)) (1 : Int32))), .second, .unset, .unset, .unset, .unset, .unset, .unset, .unset, .unset, .unset, .unset]) rfl k_) ?_
  show own_Go p e below T14 (mkF m 71 #[.val (.int p0), .val (.int x0), .val (.int x1), .val (.int x2), .val (.int (1 : Int32)), .val (.ref b1), .val (.ref b7), .val (.double (own_avg ((0 : Int64) + (x0.toInt64)) (1 : Int32))), .second, .unset, .unset, .unset, .unset, .unset, .unset, .unset, .unset, .unset, .unset] []) _
  refine own_st (fun t_ k_ => XS.iload X14.here hx rfl (hb hby at_71) rfl k_) ?_
  show own_Go p e below T14 (mkF m 73 #[.val (.int p0), .val (.int x0), .val (.int x1), .val (.int x2), .val (.int (1 : Int32)), .val (.ref b1), .val (.ref b7), .val (.double (own_avg ((0 : Int64) + (x0.toInt64)) (1 : Int32))), .second, .unset, .unset, .unset, .unset, .unset, .unset, .unset, .unset, .unset, .unset] [(.int (1 : Int32))]) _
  refine own_st (fun t_ k_ => XS.ifYes X14.here hx rfl (pc0 := 73) (pc' := 89) rfl (hb hby at_73) rfl (by decide) (by decide) (by decide) k_) ?_
  show own_Go p e below T14 (mkF m 89 #[.val (.int p0), .val (.int x0), .val (.int x1), .val (.int x2), .val (.int (1 : Int32)), .val (.ref b1), .val (.ref b7), .val (.double (own_avg ((0 : Int64) + (x0.toInt64)) (1 : Int32))), .second, .unset, .unset, .unset, .unset, .unset, .unset, .unset, .unset, .unset, .unset] []) _
  refine own_st (fun t_ k_ => XS.iloadN X14.here hx rfl (hb hby at_89) rfl k_) ?_
  show own_Go p e below T14 (mkF m 90 #[.val (.int p0), .val (.int x0), .val (.int x1), .val (.int x2), .val (.int (1 : Int32)), .val (.ref b1), .val (.ref b7), .val (.double (own_avg ((0 : Int64) + (x0.toInt64)) (1 : Int32))), .second, .unset, .unset, .unset, .unset, .unset, .unset, .unset, .unset, .unset, .unset] [(.int x0)]) _
  refine own_st (fun t_ k_ => XS.i2l X14.here hx rfl (hb hby at_90) rfl k_) ?_
  show own_Go p e below T14 (mkF m 91 #[.val (.int p0), .val (.int x0), .val (.int x1), .val (.int x2), .val (.int (1 : Int32)), .val (.ref b1), .val (.ref b7), .val (.double (own_avg ((0 : Int64) + (x0.toInt64)) (1 : Int32))), .second, .unset, .unset, .unset, .unset, .unset, .unset, .unset, .unset, .unset, .unset] [(.long (x0.toInt64))]) _
  refine own_st (fun t_ k_ => XS.lstore X14.here hx rfl (hb hby at_91) rfl (l' := #[.val (.int p0), .val (.int x0), .val (.int x1), .val (.int x2), .val (.int (1 : Int32)), .val (.ref b1), .val (.ref b7), .val (.double (own_avg ((0 : Int64) + (x0.toInt64)) (1 : Int32))), .second, .val (.long (x0.toInt64)), .second, .unset, .unset, .unset, .unset, .unset, .unset, .unset, .unset]) rfl k_) ?_
  show own_Go p e below T14 (mkF m 93 #[.val (.int p0), .val (.int x0), .val (.int x1), .val (.int x2), .val (.int (1 : Int32)), .val (.ref b1), .val (.ref b7), .val (.double (own_avg ((0 : Int64) + (x0.toInt64)) (1 : Int32))), .second, .val (.long (x0.toInt64)), .second, .unset, .unset, .unset, .unset, .unset, .unset, .unset, .unset] []) _
  refine own_st (fun t_ k_ => XS.iloadN X14.here hx rfl (hb hby at_93) rfl k_) ?_
  show own_Go p e below T14 (mkF m 94 #[.val (.int p0), .val (.int x0), .val (.int x1), .val (.int x2), .val (.int (1 : Int32)), .val (.ref b1), .val (.ref b7), .val (.double (own_avg ((0 : Int64) + (x0.toInt64)) (1 : Int32))), .second, .val (.long (x0.toInt64)), .second, .unset, .unset, .unset, .unset, .unset, .unset, .unset, .unset] [(.int x0)]) _
  refine own_st (fun t_ k_ => XS.i2l X14.here hx rfl (hb hby at_94) rfl k_) ?_
  show own_Go p e below T14 (mkF m 95 #[.val (.int p0), .val (.int x0), .val (.int x1), .val (.int x2), .val (.int (1 : Int32)), .val (.ref b1), .val (.ref b7), .val (.double (own_avg ((0 : Int64) + (x0.toInt64)) (1 : Int32))), .second, .val (.long (x0.toInt64)), .second, .unset, .unset, .unset, .unset, .unset, .unset, .unset, .unset] [(.long (x0.toInt64))]) _
  refine own_st (fun t_ k_ => XS.lstore X14.here hx rfl (hb hby at_95) rfl (l' := #[.val (.int p0), .val (.int x0), .val (.int x1), .val (.int x2), .val (.int (1 : Int32)), .val (.ref b1), .val (.ref b7), .val (.double (own_avg ((0 : Int64) + (x0.toInt64)) (1 : Int32))), .second, .val (.long (x0.toInt64)), .second, .val (.long (x0.toInt64)), .second, .unset, .unset, .unset, .unset, .unset, .unset]) rfl k_) ?_
  show own_Go p e below T14 (mkF m 97 #[.val (.int p0), .val (.int x0), .val (.int x1), .val (.int x2), .val (.int (1 : Int32)), .val (.ref b1), .val (.ref b7), .val (.double (own_avg ((0 : Int64) + (x0.toInt64)) (1 : Int32))), .second, .val (.long (x0.toInt64)), .second, .val (.long (x0.toInt64)), .second, .unset, .unset, .unset, .unset, .unset, .unset] []) _
  refine own_st (fun t_ k_ => XS.iloadN X14.here hx rfl (hb hby at_97) rfl k_) ?_
  show own_Go p e below T14 (mkF m 98 #[.val (.int p0), .val (.int x0), .val (.int x1), .val (.int x2), .val (.int (1 : Int32)), .val (.ref b1), .val (.ref b7), .val (.double (own_avg ((0 : Int64) + (x0.toInt64)) (1 : Int32))), .second, .val (.long (x0.toInt64)), .second, .val (.long (x0.toInt64)), .second, .unset, .unset, .unset, .unset, .unset, .unset] [(.int x0)]) _
  refine own_st (fun t_ k_ => XS.i2l X14.here hx rfl (hb hby at_98) rfl k_) ?_
  show own_Go p e below T14 (mkF m 99 #[.val (.int p0), .val (.int x0), .val (.int x1), .val (.int x2), .val (.int (1 : Int32)), .val (.ref b1), .val (.ref b7), .val (.double (own_avg ((0 : Int64) + (x0.toInt64)) (1 : Int32))), .second, .val (.long (x0.toInt64)), .second, .val (.long (x0.toInt64)), .second, .unset, .unset, .unset, .unset, .unset, .unset] [(.long (x0.toInt64))]) _
  refine own_st (fun t_ k_ => XS.lstore X14.here hx rfl (hb hby at_99) rfl (l' := #[.val (.int p0), .val (.int x0), .val (.int x1), .val (.int x2), .val (.int (1 : Int32)), .val (.ref b1), .val (.ref b7), .val (.double (own_avg ((0 : Int64) + (x0.toInt64)) (1 : Int32))), .second, .val (.long (x0.toInt64)), .second, .val (.long (x0.toInt64)), .second, .val (.long (x0.toInt64)), .second, .unset, .unset, .unset, .unset]) rfl k_) ?_
  show own_Go p e below T14 (mkF m 101 #[.val (.int p0), .val (.int x0), .val (.int x1), .val (.int x2), .val (.int (1 : Int32)), .val (.ref b1), .val (.ref b7), .val (.double (own_avg ((0 : Int64) + (x0.toInt64)) (1 : Int32))), .second, .val (.long (x0.toInt64)), .second, .val (.long (x0.toInt64)), .second, .val (.long (x0.toInt64)), .second, .unset, .unset, .unset, .unset] []) _
  refine own_st (fun t_ k_ => XS.iload X14.here hx rfl (hb hby at_101) rfl k_) ?_
  show own_Go p e below T14 (mkF m 103 #[.val (.int p0), .val (.int x0), .val (.int x1), .val (.int x2), .val (.int (1 : Int32)), .val (.ref b1), .val (.ref b7), .val (.double (own_avg ((0 : Int64) + (x0.toInt64)) (1 : Int32))), .second, .val (.long (x0.toInt64)), .second, .val (.long (x0.toInt64)), .second, .val (.long (x0.toInt64)), .second, .unset, .unset, .unset, .unset] [(.int (1 : Int32))]) _
  refine own_st (fun t_ k_ => XS.iconst X14.here hx rfl (hb hby at_103) k_) ?_
  show own_Go p e below T14 (mkF m 104 #[.val (.int p0), .val (.int x0), .val (.int x1), .val (.int x2), .val (.int (1 : Int32)), .val (.ref b1), .val (.ref b7), .val (.double (own_avg ((0 : Int64) + (x0.toInt64)) (1 : Int32))), .second, .val (.long (x0.toInt64)), .second, .val (.long (x0.toInt64)), .second, .val (.long (x0.toInt64)), .second, .unset, .unset, .unset, .unset] [(.int (1 : Int32)), (.int (1 : Int32))]) _
  refine own_st (fun t_ k_ => XS.icmpYes X14.here hx rfl (pc0 := 104) (pc' := 132) rfl (hb hby at_104) rfl (by decide) (by decide) (by decide) k_) ?_
  show own_Go p e below T14 (mkF m 132 #[.val (.int p0), .val (.int x0), .val (.int x1), .val (.int x2), .val (.int (1 : Int32)), .val (.ref b1), .val (.ref b7), .val (.double (own_avg ((0 : Int64) + (x0.toInt64)) (1 : Int32))), .second, .val (.long (x0.toInt64)), .second, .val (.long (x0.toInt64)), .second, .val (.long (x0.toInt64)), .second, .unset, .unset, .unset, .unset] []) _
  refine own_st (fun t_ k_ => XS.iload X14.here hx rfl (hb hby at_132) rfl k_) ?_
  show own_Go p e below T14 (mkF m 134 #[.val (.int p0), .val (.int x0), .val (.int x1), .val (.int x2), .val (.int (1 : Int32)), .val (.ref b1), .val (.ref b7), .val (.double (own_avg ((0 : Int64) + (x0.toInt64)) (1 : Int32))), .second, .val (.long (x0.toInt64)), .second, .val (.long (x0.toInt64)), .second, .val (.long (x0.toInt64)), .second, .unset, .unset, .unset, .unset] [(.int (1 : Int32))]) _
  refine own_st (fun t_ k_ => XS.iconst X14.here hx rfl (hb hby at_134) k_) ?_
  show own_Go p e below T14 (mkF m 135 #[.val (.int p0), .val (.int x0), .val (.int x1), .val (.int x2), .val (.int (1 : Int32)), .val (.ref b1), .val (.ref b7), .val (.double (own_avg ((0 : Int64) + (x0.toInt64)) (1 : Int32))), .second, .val (.long (x0.toInt64)), .second, .val (.long (x0.toInt64)), .second, .val (.long (x0.toInt64)), .second, .unset, .unset, .unset, .unset] [(.int (2 : Int32)), (.int (1 : Int32))]) _
  refine own_st (fun t_ k_ => XS.icmpYes X14.here hx rfl (pc0 := 135) (pc' := 163) rfl (hb hby at_135) rfl (by decide) (by decide) (by decide) k_) ?_
  show own_Go p e below T14 (mkF m 163 #[.val (.int p0), .val (.int x0), .val (.int x1), .val (.int x2), .val (.int (1 : Int32)), .val (.ref b1), .val (.ref b7), .val (.double (own_avg ((0 : Int64) + (x0.toInt64)) (1 : Int32))), .second, .val (.long (x0.toInt64)), .second, .val (.long (x0.toInt64)), .second, .val (.long (x0.toInt64)), .second, .unset, .unset, .unset, .unset] []) _
  refine own_st (fun t_ k_ => XS.lload X14.here hx rfl (hb hby at_163) rfl k_) ?_
  show own_Go p e below T14 (mkF m 165 #[.val (.int p0), .val (.int x0), .val (.int x1), .val (.int x2), .val (.int (1 : Int32)), .val (.ref b1), .val (.ref b7), .val (.double (own_avg ((0 : Int64) + (x0.toInt64)) (1 : Int32))), .second, .val (.long (x0.toInt64)), .second, .val (.long (x0.toInt64)), .second, .val (.long (x0.toInt64)), .second, .unset, .unset, .unset, .unset] [(.long (x0.toInt64))]) _
  refine own_st (fun t_ k_ => XS.l2dS X14.here hx rfl (hb hby at_165) rfl rfl k_) ?_
  show own_Go p e below T14 (mkF m 166 #[.val (.int p0), .val (.int x0), .val (.int x1), .val (.int x2), .val (.int (1 : Int32)), .val (.ref b1), .val (.ref b7), .val (.double (own_avg ((0 : Int64) + (x0.toInt64)) (1 : Int32))), .second, .val (.long (x0.toInt64)), .second, .val (.long (x0.toInt64)), .second, .val (.long (x0.toInt64)), .second, .unset, .unset, .unset, .unset] [(.double (FP.l2d (x0.toInt64)))]) _
  refine own_st (fun t_ k_ => XS.iload X14.here hx rfl (hb hby at_166) rfl k_) ?_
  show own_Go p e below T14 (mkF m 168 #[.val (.int p0), .val (.int x0), .val (.int x1), .val (.int x2), .val (.int (1 : Int32)), .val (.ref b1), .val (.ref b7), .val (.double (own_avg ((0 : Int64) + (x0.toInt64)) (1 : Int32))), .second, .val (.long (x0.toInt64)), .second, .val (.long (x0.toInt64)), .second, .val (.long (x0.toInt64)), .second, .unset, .unset, .unset, .unset] [(.int (1 : Int32)), (.double (FP.l2d (x0.toInt64)))]) _
  refine own_st (fun t_ k_ => XS.i2dS X14.here hx rfl (hb hby at_168) rfl rfl k_) ?_
  show own_Go p e below T14 (mkF m 169 #[.val (.int p0), .val (.int x0), .val (.int x1), .val (.int x2), .val (.int (1 : Int32)), .val (.ref b1), .val (.ref b7), .val (.double (own_avg ((0 : Int64) + (x0.toInt64)) (1 : Int32))), .second, .val (.long (x0.toInt64)), .second, .val (.long (x0.toInt64)), .second, .val (.long (x0.toInt64)), .second, .unset, .unset, .unset, .unset] [(.double (FP.i2d (1 : Int32))), (.double (FP.l2d (x0.toInt64)))]) _
  have hf := own_avg_facts (n := (1 : Int32)) hs (by decide) (by decide)
  have hav : FP.ddiv (FP.l2d (x0.toInt64)) (FP.i2d (1 : Int32)) = own_avg ((0 : Int64) + (x0.toInt64)) (1 : Int32) := by unfold own_avg; exact congrArg (fun z => FP.ddiv (FP.l2d z) (FP.i2d (1 : Int32))) hsame
  refine own_st (fun t_ k_ => XS.ddivS X14.here hx rfl (hb hby at_169) rfl (by rw [hav]; exact hf.1) hav k_) ?_
  show own_Go p e below T14 (mkF m 170 #[.val (.int p0), .val (.int x0), .val (.int x1), .val (.int x2), .val (.int (1 : Int32)), .val (.ref b1), .val (.ref b7), .val (.double (own_avg ((0 : Int64) + (x0.toInt64)) (1 : Int32))), .second, .val (.long (x0.toInt64)), .second, .val (.long (x0.toInt64)), .second, .val (.long (x0.toInt64)), .second, .unset, .unset, .unset, .unset] [(.double (own_avg ((0 : Int64) + (x0.toInt64)) (1 : Int32)))]) _
  have e3 : ((1 : Int32)).toInt = 1 := rfl
  refine own_st (fun t_ k_ => XS.dstore X14.here hx rfl (hb hby at_170) rfl (l' := #[.val (.int p0), .val (.int x0), .val (.int x1), .val (.int x2), .val (.int (1 : Int32)), .val (.ref b1), .val (.ref b7), .val (.double (own_avg ((0 : Int64) + (x0.toInt64)) (1 : Int32))), .second, .val (.long (x0.toInt64)), .second, .val (.long (x0.toInt64)), .second, .val (.long (x0.toInt64)), .second, .val (.double (own_avg ((0 : Int64) + (x0.toInt64)) (1 : Int32))), .second, .unset, .unset]) rfl k_) ?_
  show own_Go p e below T14 (mkF m 172 #[.val (.int p0), .val (.int x0), .val (.int x1), .val (.int x2), .val (.int (1 : Int32)), .val (.ref b1), .val (.ref b7), .val (.double (own_avg ((0 : Int64) + (x0.toInt64)) (1 : Int32))), .second, .val (.long (x0.toInt64)), .second, .val (.long (x0.toInt64)), .second, .val (.long (x0.toInt64)), .second, .val (.double (own_avg ((0 : Int64) + (x0.toInt64)) (1 : Int32))), .second, .unset, .unset] []) _
  refine own_st (fun t_ k_ => XS.dload X14.here hx rfl (hb hby at_172) rfl k_) ?_
  show own_Go p e below T14 (mkF m 174 #[.val (.int p0), .val (.int x0), .val (.int x1), .val (.int x2), .val (.int (1 : Int32)), .val (.ref b1), .val (.ref b7), .val (.double (own_avg ((0 : Int64) + (x0.toInt64)) (1 : Int32))), .second, .val (.long (x0.toInt64)), .second, .val (.long (x0.toInt64)), .second, .val (.long (x0.toInt64)), .second, .val (.double (own_avg ((0 : Int64) + (x0.toInt64)) (1 : Int32))), .second, .unset, .unset] [(.double (own_avg ((0 : Int64) + (x0.toInt64)) (1 : Int32)))]) _
  refine own_st (fun t_ k_ => XS.dload X14.here hx rfl (hb hby at_174) rfl k_) ?_
  show own_Go p e below T14 (mkF m 176 #[.val (.int p0), .val (.int x0), .val (.int x1), .val (.int x2), .val (.int (1 : Int32)), .val (.ref b1), .val (.ref b7), .val (.double (own_avg ((0 : Int64) + (x0.toInt64)) (1 : Int32))), .second, .val (.long (x0.toInt64)), .second, .val (.long (x0.toInt64)), .second, .val (.long (x0.toInt64)), .second, .val (.double (own_avg ((0 : Int64) + (x0.toInt64)) (1 : Int32))), .second, .unset, .unset] [(.double (own_avg ((0 : Int64) + (x0.toInt64)) (1 : Int32))), (.double (own_avg ((0 : Int64) + (x0.toInt64)) (1 : Int32)))]) _
  refine own_st (fun t_ k_ => XS.dcmpS X14.here hx rfl (hb hby at_176) rfl (dcmpV_self hf.1 _) k_) ?_
  show own_Go p e below T14 (mkF m 177 #[.val (.int p0), .val (.int x0), .val (.int x1), .val (.int x2), .val (.int (1 : Int32)), .val (.ref b1), .val (.ref b7), .val (.double (own_avg ((0 : Int64) + (x0.toInt64)) (1 : Int32))), .second, .val (.long (x0.toInt64)), .second, .val (.long (x0.toInt64)), .second, .val (.long (x0.toInt64)), .second, .val (.double (own_avg ((0 : Int64) + (x0.toInt64)) (1 : Int32))), .second, .unset, .unset] [(.int (0 : Int32))]) _
  refine own_st (fun t_ k_ => XS.ifNo X14.here hx rfl (hb hby at_177) rfl (by decide) k_) ?_
  show own_Go p e below T14 (mkF m 180 #[.val (.int p0), .val (.int x0), .val (.int x1), .val (.int x2), .val (.int (1 : Int32)), .val (.ref b1), .val (.ref b7), .val (.double (own_avg ((0 : Int64) + (x0.toInt64)) (1 : Int32))), .second, .val (.long (x0.toInt64)), .second, .val (.long (x0.toInt64)), .second, .val (.long (x0.toInt64)), .second, .val (.double (own_avg ((0 : Int64) + (x0.toInt64)) (1 : Int32))), .second, .unset, .unset] []) _
  refine own_st (fun t_ k_ => XS.iconst X14.here hx rfl (hb hby at_180) k_) ?_
  show own_Go p e below T14 (mkF m 181 #[.val (.int p0), .val (.int x0), .val (.int x1), .val (.int x2), .val (.int (1 : Int32)), .val (.ref b1), .val (.ref b7), .val (.double (own_avg ((0 : Int64) + (x0.toInt64)) (1 : Int32))), .second, .val (.long (x0.toInt64)), .second, .val (.long (x0.toInt64)), .second, .val (.long (x0.toInt64)), .second, .val (.double (own_avg ((0 : Int64) + (x0.toInt64)) (1 : Int32))), .second, .unset, .unset] [(.int (1 : Int32))]) _
  refine own_st (fun t_ k_ => XS.goto X14.here hx rfl (pc0 := 181) (pc' := 185) rfl (hb hby at_181) (by decide) (by decide) k_) ?_
  show own_Go p e below T14 (mkF m 185 #[.val (.int p0), .val (.int x0), .val (.int x1), .val (.int x2), .val (.int (1 : Int32)), .val (.ref b1), .val (.ref b7), .val (.double (own_avg ((0 : Int64) + (x0.toInt64)) (1 : Int32))), .second, .val (.long (x0.toInt64)), .second, .val (.long (x0.toInt64)), .second, .val (.long (x0.toInt64)), .second, .val (.double (own_avg ((0 : Int64) + (x0.toInt64)) (1 : Int32))), .second, .unset, .unset] [(.int (1 : Int32))]) _
  refine own_st (fun t_ k_ => XS.istore X14.here hx rfl (hb hby at_185) rfl (l' := #[.val (.int p0), .val (.int x0), .val (.int x1), .val (.int x2), .val (.int (1 : Int32)), .val (.ref b1), .val (.ref b7), .val (.double (own_avg ((0 : Int64) + (x0.toInt64)) (1 : Int32))), .second, .val (.long (x0.toInt64)), .second, .val (.long (x0.toInt64)), .second, .val (.long (x0.toInt64)), .second, .val (.double (own_avg ((0 : Int64) + (x0.toInt64)) (1 : Int32))), .second, .val (.int (1 : Int32)), .unset]) rfl k_) ?_
  show own_Go p e below T14 (mkF m 187 #[.val (.int p0), .val (.int x0), .val (.int x1), .val (.int x2), .val (.int (1 : Int32)), .val (.ref b1), .val (.ref b7), .val (.double (own_avg ((0 : Int64) + (x0.toInt64)) (1 : Int32))), .second, .val (.long (x0.toInt64)), .second, .val (.long (x0.toInt64)), .second, .val (.long (x0.toInt64)), .second, .val (.double (own_avg ((0 : Int64) + (x0.toInt64)) (1 : Int32))), .second, .val (.int (1 : Int32)), .unset] []) _
  refine own_st (fun t_ k_ => XS.dload X14.here hx rfl (hb hby at_187) rfl k_) ?_
  show own_Go p e below T14 (mkF m 189 #[.val (.int p0), .val (.int x0), .val (.int x1), .val (.int x2), .val (.int (1 : Int32)), .val (.ref b1), .val (.ref b7), .val (.double (own_avg ((0 : Int64) + (x0.toInt64)) (1 : Int32))), .second, .val (.long (x0.toInt64)), .second, .val (.long (x0.toInt64)), .second, .val (.long (x0.toInt64)), .second, .val (.double (own_avg ((0 : Int64) + (x0.toInt64)) (1 : Int32))), .second, .val (.int (1 : Int32)), .unset] [(.double (own_avg ((0 : Int64) + (x0.toInt64)) (1 : Int32)))]) _
  refine own_st (fun t_ k_ => XS.lload X14.here hx rfl (hb hby at_189) rfl k_) ?_
  show own_Go p e below T14 (mkF m 191 #[.val (.int p0), .val (.int x0), .val (.int x1), .val (.int x2), .val (.int (1 : Int32)), .val (.ref b1), .val (.ref b7), .val (.double (own_avg ((0 : Int64) + (x0.toInt64)) (1 : Int32))), .second, .val (.long (x0.toInt64)), .second, .val (.long (x0.toInt64)), .second, .val (.long (x0.toInt64)), .second, .val (.double (own_avg ((0 : Int64) + (x0.toInt64)) (1 : Int32))), .second, .val (.int (1 : Int32)), .unset] [(.long (x0.toInt64)), (.double (own_avg ((0 : Int64) + (x0.toInt64)) (1 : Int32)))]) _
  refine own_st (fun t_ k_ => XS.l2dS X14.here hx rfl (hb hby at_191) rfl rfl k_) ?_
  show own_Go p e below T14 (mkF m 192 #[.val (.int p0), .val (.int x0), .val (.int x1), .val (.int x2), .val (.int (1 : Int32)), .val (.ref b1), .val (.ref b7), .val (.double (own_avg ((0 : Int64) + (x0.toInt64)) (1 : Int32))), .second, .val (.long (x0.toInt64)), .second, .val (.long (x0.toInt64)), .second, .val (.long (x0.toInt64)), .second, .val (.double (own_avg ((0 : Int64) + (x0.toInt64)) (1 : Int32))), .second, .val (.int (1 : Int32)), .unset] [(.double (FP.l2d (x0.toInt64))), (.double (own_avg ((0 : Int64) + (x0.toInt64)) (1 : Int32)))]) _
  refine own_st (fun t_ k_ => XS.dcmpS X14.here hx rfl (hb hby at_192) rfl rfl k_) ?_
  show own_Go p e below T14 (mkF m 193 #[.val (.int p0), .val (.int x0), .val (.int x1), .val (.int x2), .val (.int (1 : Int32)), .val (.ref b1), .val (.ref b7), .val (.double (own_avg ((0 : Int64) + (x0.toInt64)) (1 : Int32))), .second, .val (.long (x0.toInt64)), .second, .val (.long (x0.toInt64)), .second, .val (.long (x0.toInt64)), .second, .val (.double (own_avg ((0 : Int64) + (x0.toInt64)) (1 : Int32))), .second, .val (.int (1 : Int32)), .unset] [(.int (cmpValue (FP.dcmp (own_avg ((0 : Int64) + (x0.toInt64)) (1 : Int32)) (FP.l2d (x0.toInt64))) .g))]) _
  refine own_st (fun t_ k_ => XS.ifNo X14.here hx rfl (hb hby at_193) rfl ((if0 _ _).trans (flt (hf.2.1 (x0.toInt64) (by omega) (by rw [e3, s0]; omega))).1) k_) ?_
  show own_Go p e below T14 (mkF m 196 #[.val (.int p0), .val (.int x0), .val (.int x1), .val (.int x2), .val (.int (1 : Int32)), .val (.ref b1), .val (.ref b7), .val (.double (own_avg ((0 : Int64) + (x0.toInt64)) (1 : Int32))), .second, .val (.long (x0.toInt64)), .second, .val (.long (x0.toInt64)), .second, .val (.long (x0.toInt64)), .second, .val (.double (own_avg ((0 : Int64) + (x0.toInt64)) (1 : Int32))), .second, .val (.int (1 : Int32)), .unset] []) _
  refine own_st (fun t_ k_ => XS.lload X14.here hx rfl (hb hby at_196) rfl k_) ?_
  show own_Go p e below T14 (mkF m 198 #[.val (.int p0), .val (.int x0), .val (.int x1), .val (.int x2), .val (.int (1 : Int32)), .val (.ref b1), .val (.ref b7), .val (.double (own_avg ((0 : Int64) + (x0.toInt64)) (1 : Int32))), .second, .val (.long (x0.toInt64)), .second, .val (.long (x0.toInt64)), .second, .val (.long (x0.toInt64)), .second, .val (.double (own_avg ((0 : Int64) + (x0.toInt64)) (1 : Int32))), .second, .val (.int (1 : Int32)), .unset] [(.long (x0.toInt64))]) _
  refine own_st (fun t_ k_ => XS.l2dS X14.here hx rfl (hb hby at_198) rfl rfl k_) ?_
  show own_Go p e below T14 (mkF m 199 #[.val (.int p0), .val (.int x0), .val (.int x1), .val (.int x2), .val (.int (1 : Int32)), .val (.ref b1), .val (.ref b7), .val (.double (own_avg ((0 : Int64) + (x0.toInt64)) (1 : Int32))), .second, .val (.long (x0.toInt64)), .second, .val (.long (x0.toInt64)), .second, .val (.long (x0.toInt64)), .second, .val (.double (own_avg ((0 : Int64) + (x0.toInt64)) (1 : Int32))), .second, .val (.int (1 : Int32)), .unset] [(.double (FP.l2d (x0.toInt64)))]) _
  refine own_st (fun t_ k_ => XS.dload X14.here hx rfl (hb hby at_199) rfl k_) ?_
  show own_Go p e below T14 (mkF m 201 #[.val (.int p0), .val (.int x0), .val (.int x1), .val (.int x2), .val (.int (1 : Int32)), .val (.ref b1), .val (.ref b7), .val (.double (own_avg ((0 : Int64) + (x0.toInt64)) (1 : Int32))), .second, .val (.long (x0.toInt64)), .second, .val (.long (x0.toInt64)), .second, .val (.long (x0.toInt64)), .second, .val (.double (own_avg ((0 : Int64) + (x0.toInt64)) (1 : Int32))), .second, .val (.int (1 : Int32)), .unset] [(.double (own_avg ((0 : Int64) + (x0.toInt64)) (1 : Int32))), (.double (FP.l2d (x0.toInt64)))]) _
  refine own_st (fun t_ k_ => XS.dcmpS X14.here hx rfl (hb hby at_201) rfl rfl k_) ?_
  show own_Go p e below T14 (mkF m 202 #[.val (.int p0), .val (.int x0), .val (.int x1), .val (.int x2), .val (.int (1 : Int32)), .val (.ref b1), .val (.ref b7), .val (.double (own_avg ((0 : Int64) + (x0.toInt64)) (1 : Int32))), .second, .val (.long (x0.toInt64)), .second, .val (.long (x0.toInt64)), .second, .val (.long (x0.toInt64)), .second, .val (.double (own_avg ((0 : Int64) + (x0.toInt64)) (1 : Int32))), .second, .val (.int (1 : Int32)), .unset] [(.int (cmpValue (FP.dcmp (FP.l2d (x0.toInt64)) (own_avg ((0 : Int64) + (x0.toInt64)) (1 : Int32))) .g))]) _
  refine own_st (fun t_ k_ => XS.ifNo X14.here hx rfl (hb hby at_202) rfl ((if0 _ _).trans (flt (hf.2.2 (x0.toInt64) (by omega) (by rw [e3, s0]; omega))).1) k_) ?_
  show own_Go p e below T14 (mkF m 205 #[.val (.int p0), .val (.int x0), .val (.int x1), .val (.int x2), .val (.int (1 : Int32)), .val (.ref b1), .val (.ref b7), .val (.double (own_avg ((0 : Int64) + (x0.toInt64)) (1 : Int32))), .second, .val (.long (x0.toInt64)), .second, .val (.long (x0.toInt64)), .second, .val (.long (x0.toInt64)), .second, .val (.double (own_avg ((0 : Int64) + (x0.toInt64)) (1 : Int32))), .second, .val (.int (1 : Int32)), .unset] []) _
  refine own_st (fun t_ k_ => XS.iconst X14.here hx rfl (hb hby at_205) k_) ?_
  show own_Go p e below T14 (mkF m 206 #[.val (.int p0), .val (.int x0), .val (.int x1), .val (.int x2), .val (.int (1 : Int32)), .val (.ref b1), .val (.ref b7), .val (.double (own_avg ((0 : Int64) + (x0.toInt64)) (1 : Int32))), .second, .val (.long (x0.toInt64)), .second, .val (.long (x0.toInt64)), .second, .val (.long (x0.toInt64)), .second, .val (.double (own_avg ((0 : Int64) + (x0.toInt64)) (1 : Int32))), .second, .val (.int (1 : Int32)), .unset] [(.int (1 : Int32))]) _
  refine own_st (fun t_ k_ => XS.goto X14.here hx rfl (pc0 := 206) (pc' := 210) rfl (hb hby at_206) (by decide) (by decide) k_) ?_
  show own_Go p e below T14 (mkF m 210 #[.val (.int p0), .val (.int x0), .val (.int x1), .val (.int x2), .val (.int (1 : Int32)), .val (.ref b1), .val (.ref b7), .val (.double (own_avg ((0 : Int64) + (x0.toInt64)) (1 : Int32))), .second, .val (.long (x0.toInt64)), .second, .val (.long (x0.toInt64)), .second, .val (.long (x0.toInt64)), .second, .val (.double (own_avg ((0 : Int64) + (x0.toInt64)) (1 : Int32))), .second, .val (.int (1 : Int32)), .unset] [(.int (1 : Int32))]) _
  refine own_st (fun t_ k_ => XS.istore X14.here hx rfl (hb hby at_210) rfl (l' := #[.val (.int p0), .val (.int x0), .val (.int x1), .val (.int x2), .val (.int (1 : Int32)), .val (.ref b1), .val (.ref b7), .val (.double (own_avg ((0 : Int64) + (x0.toInt64)) (1 : Int32))), .second, .val (.long (x0.toInt64)), .second, .val (.long (x0.toInt64)), .second, .val (.long (x0.toInt64)), .second, .val (.double (own_avg ((0 : Int64) + (x0.toInt64)) (1 : Int32))), .second, .val (.int (1 : Int32)), .val (.int (1 : Int32))]) rfl k_) ?_
  show own_Go p e below T14 (mkF m 212 #[.val (.int p0), .val (.int x0), .val (.int x1), .val (.int x2), .val (.int (1 : Int32)), .val (.ref b1), .val (.ref b7), .val (.double (own_avg ((0 : Int64) + (x0.toInt64)) (1 : Int32))), .second, .val (.long (x0.toInt64)), .second, .val (.long (x0.toInt64)), .second, .val (.long (x0.toInt64)), .second, .val (.double (own_avg ((0 : Int64) + (x0.toInt64)) (1 : Int32))), .second, .val (.int (1 : Int32)), .val (.int (1 : Int32))] []) _
  refine own_st (fun t_ k_ => XS.iload X14.here hx rfl (hb hby at_212) rfl k_) ?_
  show own_Go p e below T14 (mkF m 214 #[.val (.int p0), .val (.int x0), .val (.int x1), .val (.int x2), .val (.int (1 : Int32)), .val (.ref b1), .val (.ref b7), .val (.double (own_avg ((0 : Int64) + (x0.toInt64)) (1 : Int32))), .second, .val (.long (x0.toInt64)), .second, .val (.long (x0.toInt64)), .second, .val (.long (x0.toInt64)), .second, .val (.double (own_avg ((0 : Int64) + (x0.toInt64)) (1 : Int32))), .second, .val (.int (1 : Int32)), .val (.int (1 : Int32))] [(.int (1 : Int32))]) _
  refine own_st (fun t_ k_ => XS.ifNo X14.here hx rfl (hb hby at_214) rfl (by decide) k_) ?_
  show own_Go p e below T14 (mkF m 217 #[.val (.int p0), .val (.int x0), .val (.int x1), .val (.int x2), .val (.int (1 : Int32)), .val (.ref b1), .val (.ref b7), .val (.double (own_avg ((0 : Int64) + (x0.toInt64)) (1 : Int32))), .second, .val (.long (x0.toInt64)), .second, .val (.long (x0.toInt64)), .second, .val (.long (x0.toInt64)), .second, .val (.double (own_avg ((0 : Int64) + (x0.toInt64)) (1 : Int32))), .second, .val (.int (1 : Int32)), .val (.int (1 : Int32))] []) _
  refine own_st (fun t_ k_ => XS.iload X14.here hx rfl (hb hby at_217) rfl k_) ?_
  show own_Go p e below T14 (mkF m 219 #[.val (.int p0), .val (.int x0), .val (.int x1), .val (.int x2), .val (.int (1 : Int32)), .val (.ref b1), .val (.ref b7), .val (.double (own_avg ((0 : Int64) + (x0.toInt64)) (1 : Int32))), .second, .val (.long (x0.toInt64)), .second, .val (.long (x0.toInt64)), .second, .val (.long (x0.toInt64)), .second, .val (.double (own_avg ((0 : Int64) + (x0.toInt64)) (1 : Int32))), .second, .val (.int (1 : Int32)), .val (.int (1 : Int32))] [(.int (1 : Int32))]) _
  refine own_st (fun t_ k_ => XS.ifNo X14.here hx rfl (hb hby at_219) rfl (by decide) k_) ?_
  show own_Go p e below T14 (mkF m 222 #[.val (.int p0), .val (.int x0), .val (.int x1), .val (.int x2), .val (.int (1 : Int32)), .val (.ref b1), .val (.ref b7), .val (.double (own_avg ((0 : Int64) + (x0.toInt64)) (1 : Int32))), .second, .val (.long (x0.toInt64)), .second, .val (.long (x0.toInt64)), .second, .val (.long (x0.toInt64)), .second, .val (.double (own_avg ((0 : Int64) + (x0.toInt64)) (1 : Int32))), .second, .val (.int (1 : Int32)), .val (.int (1 : Int32))] []) _
  refine own_st (fun t_ k_ => XS.iconst X14.here hx rfl (hb hby at_222) k_) ?_
  show own_Go p e below T14 (mkF m 223 #[.val (.int p0), .val (.int x0), .val (.int x1), .val (.int x2), .val (.int (1 : Int32)), .val (.ref b1), .val (.ref b7), .val (.double (own_avg ((0 : Int64) + (x0.toInt64)) (1 : Int32))), .second, .val (.long (x0.toInt64)), .second, .val (.long (x0.toInt64)), .second, .val (.long (x0.toInt64)), .second, .val (.double (own_avg ((0 : Int64) + (x0.toInt64)) (1 : Int32))), .second, .val (.int (1 : Int32)), .val (.int (1 : Int32))] [(.int (1 : Int32))]) _
  refine own_st (fun t_ k_ => XS.goto X14.here hx rfl (pc0 := 223) (pc' := 227) rfl (hb hby at_223) (by decide) (by decide) k_) ?_
  show own_Go p e below T14 (mkF m 227 #[.val (.int p0), .val (.int x0), .val (.int x1), .val (.int x2), .val (.int (1 : Int32)), .val (.ref b1), .val (.ref b7), .val (.double (own_avg ((0 : Int64) + (x0.toInt64)) (1 : Int32))), .second, .val (.long (x0.toInt64)), .second, .val (.long (x0.toInt64)), .second, .val (.long (x0.toInt64)), .second, .val (.double (own_avg ((0 : Int64) + (x0.toInt64)) (1 : Int32))), .second, .val (.int (1 : Int32)), .val (.int (1 : Int32))] [(.int (1 : Int32))]) _
  obtain ⟨fs, hr, hrun, hended, hW, hsame⟩ := X14.leave (v := some (.int (1 : Int32))) (fun h => by rw [Bd.returns] at h; cases h)
  refine own_fin (retN X14 hx (t := .boolean) Bd.returns (by simp) (hb hby at_227) hr) ⟨hrun, hended, _, _, rfl, ?_, ⟨_, rfl⟩, hW, hsame.mono (by decide) (by decide)⟩
  show Q_rmLaw1 Z p0 x0 x1 x2 h0 n0 _ T14.heap _
  rw [eH14]
  exact ⟨rfl, N14, K12⟩
theorem pd__JJ_J : parseMethodDescriptor "(JJ)J" = some ⟨[.long, .long], some .long⟩ := by decide +kernel
theorem ef_rmLaw2 (m : MethodId) (x0 : Int32) (x1 : Int32) (x2 : Int32) (x3 : Int32) : entryFrame m #[(.int x0), (.int x1), (.int x2), (.int x3)] maxLocals = mkF m 0 #[.val (.int x0), .val (.int x1), .val (.int x2), .val (.int x3), .unset, .unset, .unset, .unset, .unset, .unset, .unset, .unset, .unset, .unset, .unset, .unset, .unset, .unset, .unset] [] := by first | (simp [entryFrame, mkF, argsToLocals, Value.category, maxLocals]; done) | rfl
def Q_rmLaw2 (Z : State) (p0 : Int32) (x0 : Int32) (x1 : Int32) (x2 : Int32) (h0 : Heap) (n0 : Nat) (v : Option Value) (h : Heap) (L : List Loc) : Prop := v = some (.int (1 : Int32)) ∧ Fr n0 L ∧ Keep h0 h []
set_option maxRecDepth 65536 in
set_option maxHeartbeats 40000000 in
theorem rmLaw2 (l : Launch) (Z : State) (a0 : Array Value) (hw : ∀ d ∈ tables_1, d.before a0 Z = true) (ws : List Jvm.Cond) (p0 : Int32) (x0 : Int32) (x1 : Int32) (x2 : Int32) (h0 : Heap) (n0 : Nat) (Z0 : n0 ≤ h0.size) (hn : (p0 &&& (3 : Int32) = (2 : Int32))) :
    MetFree l x (head1 (Jvm.Cond.code x code maxLocals ret :: ws) room_1) (fun a U => a = #[(.int p0), (.int x0), (.int x1), (.int x2)] ∧ Z.Warmed39 U.vm ∧ U.heap = h0) (fun _ _ _ _ _ => True) (fun _ U o U' => ∃ v L, o = .returned v ∧ Q_rmLaw2 Z p0 x0 x1 x2 h0 n0 v U'.heap L ∧ FrameEnd U o U' L 16 128) := by
  refine MetFree.of_bodySF (plainFor_of_name pn_0) hisR ?_
  intro p e s m args below meth c s₁ Bd hml0 hP hK
  obtain ⟨rfl, hZ, hh⟩ := hP
  have hx := Bd.exec
  have hby := Bd.bytes
  have hml : c.maxLocals = 19 := hml0
  have hown : s.vm.findClass "com/example/descriptor/descriptor/engine/index/InvertedFieldAverageLengthPinLaw" = some m.cls := findClass_of_methodNamed Bd.named
  have hnm := (name_of_methodNamed Bd.named Bd.method).1
  have X0 : Stand p l e room_1 s m #[(.int p0), (.int x0), (.int x1), (.int x2)] below meth c s₁ [] 0 0 := Stand.of_body Bd
  have e0 : s₁.heap = h0 := by rw [← hh, Bd.state]; rfl
  have N0 := Fr.nil n0
  refine own_enter (ef_rmLaw2 m p0 x0 x1 x2) ?_
  refine own_st (fun t_ k_ => XS.iloadN X0.here hx rfl (hb hby at_0) rfl k_) ?_
  show own_Go p e below s₁ (mkF m 1 #[.val (.int p0), .val (.int x0), .val (.int x1), .val (.int x2), .unset, .unset, .unset, .unset, .unset, .unset, .unset, .unset, .unset, .unset, .unset, .unset, .unset, .unset, .unset] [(.int p0)]) _
  refine own_st (fun t_ k_ => XS.iconst X0.here hx rfl (hb hby at_1) k_) ?_
  show own_Go p e below s₁ (mkF m 2 #[.val (.int p0), .val (.int x0), .val (.int x1), .val (.int x2), .unset, .unset, .unset, .unset, .unset, .unset, .unset, .unset, .unset, .unset, .unset, .unset, .unset, .unset, .unset] [(.int (3 : Int32)), (.int p0)]) _
  refine own_st (fun t_ k_ => XS.iand X0.here hx rfl (hb hby at_2) rfl k_) ?_
  show own_Go p e below s₁ (mkF m 3 #[.val (.int p0), .val (.int x0), .val (.int x1), .val (.int x2), .unset, .unset, .unset, .unset, .unset, .unset, .unset, .unset, .unset, .unset, .unset, .unset, .unset, .unset, .unset] [(.int (p0 &&& (3 : Int32)))]) _
  rw [hn]
  show own_Go p e below s₁ (mkF m 3 #[.val (.int p0), .val (.int x0), .val (.int x1), .val (.int x2), .unset, .unset, .unset, .unset, .unset, .unset, .unset, .unset, .unset, .unset, .unset, .unset, .unset, .unset, .unset] [(.int (2 : Int32))]) _
  refine own_st (fun t_ k_ => XS.istore X0.here hx rfl (hb hby at_3) rfl (l' := #[.val (.int p0), .val (.int x0), .val (.int x1), .val (.int x2), .val (.int (2 : Int32)), .unset, .unset, .unset, .unset, .unset, .unset, .unset, .unset, .unset, .unset, .unset, .unset, .unset, .unset]) rfl k_) ?_
  show own_Go p e below s₁ (mkF m 5 #[.val (.int p0), .val (.int x0), .val (.int x1), .val (.int x2), .val (.int (2 : Int32)), .unset, .unset, .unset, .unset, .unset, .unset, .unset, .unset, .unset, .unset, .unset, .unset, .unset, .unset] []) _
  refine own_st (fun t_ k_ => XS.iload X0.here hx rfl (hb hby at_5) rfl k_) ?_
  show own_Go p e below s₁ (mkF m 7 #[.val (.int p0), .val (.int x0), .val (.int x1), .val (.int x2), .val (.int (2 : Int32)), .unset, .unset, .unset, .unset, .unset, .unset, .unset, .unset, .unset, .unset, .unset, .unset, .unset, .unset] [(.int (2 : Int32))]) _
  refine own_st (fun t_ k_ => XS.iconst X0.here hx rfl (hb hby at_7) k_) ?_
  show own_Go p e below s₁ (mkF m 8 #[.val (.int p0), .val (.int x0), .val (.int x1), .val (.int x2), .val (.int (2 : Int32)), .unset, .unset, .unset, .unset, .unset, .unset, .unset, .unset, .unset, .unset, .unset, .unset, .unset, .unset] [(.int (3 : Int32)), (.int (2 : Int32))]) _
  refine own_st (fun t_ k_ => XS.icmpYes X0.here hx rfl (pc0 := 8) (pc' := 14) rfl (hb hby at_8) rfl (by decide) (by decide) (by decide) k_) ?_
  show own_Go p e below s₁ (mkF m 14 #[.val (.int p0), .val (.int x0), .val (.int x1), .val (.int x2), .val (.int (2 : Int32)), .unset, .unset, .unset, .unset, .unset, .unset, .unset, .unset, .unset, .unset, .unset, .unset, .unset, .unset] []) _
  refine own_st (fun t_ k_ => XS.iload X0.here hx rfl (hb hby at_14) rfl k_) ?_
  show own_Go p e below s₁ (mkF m 16 #[.val (.int p0), .val (.int x0), .val (.int x1), .val (.int x2), .val (.int (2 : Int32)), .unset, .unset, .unset, .unset, .unset, .unset, .unset, .unset, .unset, .unset, .unset, .unset, .unset, .unset] [(.int (2 : Int32))]) _
  obtain ⟨T1, h1, k1, X1, e1, E1, A1, st1⟩ := newP X0 hx hZ (hw _ (List.mem_of_getElem? (i := 0) rfl)) e0 (g := (mkF m 16 #[.val (.int p0), .val (.int x0), .val (.int x1), .val (.int x2), .val (.int (2 : Int32)), .unset, .unset, .unset, .unset, .unset, .unset, .unset, .unset, .unset, .unset, .unset, .unset, .unset, .unset] [(.int (2 : Int32))])) rfl (hb hby at_16) rfl (by decide) (cap := 2) (by decide) (by decide) (by decide) (by decide)
  obtain ⟨b1, g1⟩ : ∃ z, z = h0.size := ⟨_, rfl⟩
  rw [← g1] at A1 st1
  have G1 : n0 ≤ b1 := Nat.le_trans Z0 (Nat.le_of_eq g1.symm)
  have B1 : h0.size ≤ b1 := Nat.le_trans (Keep.refl h0 []).1 (Nat.le_of_eq g1.symm)
  have K2 : Keep h0 h1 [] := (Keep.refl h0 []).ext E1
  have V1 : Arv Z h1 b1 k1 .int (2 : Int32) [(.int (0 : Int32)), (.int (0 : Int32))] (.int (0 : Int32)) := (Arv.new A1 (by decide)).pad (pad_rep [] (.int (0 : Int32)) 2)
  refine own_st st1 ?_
  show own_Go p e below T1 (mkF m 18 #[.val (.int p0), .val (.int x0), .val (.int x1), .val (.int x2), .val (.int (2 : Int32)), .unset, .unset, .unset, .unset, .unset, .unset, .unset, .unset, .unset, .unset, .unset, .unset, .unset, .unset] [(.ref b1)]) _
  refine own_st (fun t_ k_ => XS.astore X1.here hx rfl (hb hby at_18) rfl rfl (l' := #[.val (.int p0), .val (.int x0), .val (.int x1), .val (.int x2), .val (.int (2 : Int32)), .val (.ref b1), .unset, .unset, .unset, .unset, .unset, .unset, .unset, .unset, .unset, .unset, .unset, .unset, .unset]) rfl k_) ?_
  show own_Go p e below T1 (mkF m 20 #[.val (.int p0), .val (.int x0), .val (.int x1), .val (.int x2), .val (.int (2 : Int32)), .val (.ref b1), .unset, .unset, .unset, .unset, .unset, .unset, .unset, .unset, .unset, .unset, .unset, .unset, .unset] []) _
  refine own_st (fun t_ k_ => XS.iload X1.here hx rfl (hb hby at_20) rfl k_) ?_
  show own_Go p e below T1 (mkF m 22 #[.val (.int p0), .val (.int x0), .val (.int x1), .val (.int x2), .val (.int (2 : Int32)), .val (.ref b1), .unset, .unset, .unset, .unset, .unset, .unset, .unset, .unset, .unset, .unset, .unset, .unset, .unset] [(.int (2 : Int32))]) _
  refine own_st (fun t_ k_ => XS.ifNo X1.here hx rfl (hb hby at_22) rfl (by decide) k_) ?_
  show own_Go p e below T1 (mkF m 25 #[.val (.int p0), .val (.int x0), .val (.int x1), .val (.int x2), .val (.int (2 : Int32)), .val (.ref b1), .unset, .unset, .unset, .unset, .unset, .unset, .unset, .unset, .unset, .unset, .unset, .unset, .unset] []) _
  refine own_st (fun t_ k_ => XS.aload X1.here hx rfl (hb hby at_25) rfl rfl k_) ?_
  show own_Go p e below T1 (mkF m 27 #[.val (.int p0), .val (.int x0), .val (.int x1), .val (.int x2), .val (.int (2 : Int32)), .val (.ref b1), .unset, .unset, .unset, .unset, .unset, .unset, .unset, .unset, .unset, .unset, .unset, .unset, .unset] [(.ref b1)]) _
  refine own_st (fun t_ k_ => XS.iconst X1.here hx rfl (hb hby at_27) k_) ?_
  show own_Go p e below T1 (mkF m 28 #[.val (.int p0), .val (.int x0), .val (.int x1), .val (.int x2), .val (.int (2 : Int32)), .val (.ref b1), .unset, .unset, .unset, .unset, .unset, .unset, .unset, .unset, .unset, .unset, .unset, .unset, .unset] [(.int (0 : Int32)), (.ref b1)]) _
  refine own_st (fun t_ k_ => XS.iloadN X1.here hx rfl (hb hby at_28) rfl k_) ?_
  show own_Go p e below T1 (mkF m 29 #[.val (.int p0), .val (.int x0), .val (.int x1), .val (.int x2), .val (.int (2 : Int32)), .val (.ref b1), .unset, .unset, .unset, .unset, .unset, .unset, .unset, .unset, .unset, .unset, .unset, .unset, .unset] [(.int x0), (.int (0 : Int32)), (.ref b1)]) _
  obtain ⟨cl3, Ar3, q3, Sz3, Nn3, Hh3, Gg3⟩ := id V1
  have hin3 : ¬ ((0 : Int32) < 0 ∨ cl3.slots.size ≤ ((0 : Int32)).toNatClampNeg) := inb_of Sz3 ⟨by decide, by decide⟩
  obtain ⟨T4, h4, X4, e4, W4, st4⟩ := stI X1 hx hZ e1 Ar3 (j := (0 : Int32)) hin3 (g := (mkF m 29 #[.val (.int p0), .val (.int x0), .val (.int x1), .val (.int x2), .val (.int (2 : Int32)), .val (.ref b1), .unset, .unset, .unset, .unset, .unset, .unset, .unset, .unset, .unset, .unset, .unset, .unset, .unset] [(.int x0), (.int (0 : Int32)), (.ref b1)])) rfl rfl (hb hby at_29)
  have V4 : Arv Z h4 b1 k1 .int (2 : Int32) [(.int x0), (.int (0 : Int32))] (.int (0 : Int32)) := Arv.set Ar3 q3 Sz3 Nn3 Hh3 Gg3 rfl W4 0 rfl (Nat.le_of_ble_eq_true rfl)
  have K5 : Keep h0 h4 [] := K2.wr W4 (Or.inr B1)
  have N4 := Fr.snoc X4 N0 G1
  refine own_st st4 ?_
  show own_Go p e below T4 (mkF m 30 #[.val (.int p0), .val (.int x0), .val (.int x1), .val (.int x2), .val (.int (2 : Int32)), .val (.ref b1), .unset, .unset, .unset, .unset, .unset, .unset, .unset, .unset, .unset, .unset, .unset, .unset, .unset] []) _
  refine own_st (fun t_ k_ => XS.iload X4.here hx rfl (hb hby at_30) rfl k_) ?_
  show own_Go p e below T4 (mkF m 32 #[.val (.int p0), .val (.int x0), .val (.int x1), .val (.int x2), .val (.int (2 : Int32)), .val (.ref b1), .unset, .unset, .unset, .unset, .unset, .unset, .unset, .unset, .unset, .unset, .unset, .unset, .unset] [(.int (2 : Int32))]) _
  refine own_st (fun t_ k_ => XS.iconst X4.here hx rfl (hb hby at_32) k_) ?_
  show own_Go p e below T4 (mkF m 33 #[.val (.int p0), .val (.int x0), .val (.int x1), .val (.int x2), .val (.int (2 : Int32)), .val (.ref b1), .unset, .unset, .unset, .unset, .unset, .unset, .unset, .unset, .unset, .unset, .unset, .unset, .unset] [(.int (1 : Int32)), (.int (2 : Int32))]) _
  refine own_st (fun t_ k_ => XS.icmpNo X4.here hx rfl (hb hby at_33) rfl (by decide) k_) ?_
  show own_Go p e below T4 (mkF m 36 #[.val (.int p0), .val (.int x0), .val (.int x1), .val (.int x2), .val (.int (2 : Int32)), .val (.ref b1), .unset, .unset, .unset, .unset, .unset, .unset, .unset, .unset, .unset, .unset, .unset, .unset, .unset] []) _
  refine own_st (fun t_ k_ => XS.aload X4.here hx rfl (hb hby at_36) rfl rfl k_) ?_
  show own_Go p e below T4 (mkF m 38 #[.val (.int p0), .val (.int x0), .val (.int x1), .val (.int x2), .val (.int (2 : Int32)), .val (.ref b1), .unset, .unset, .unset, .unset, .unset, .unset, .unset, .unset, .unset, .unset, .unset, .unset, .unset] [(.ref b1)]) _
  refine own_st (fun t_ k_ => XS.iconst X4.here hx rfl (hb hby at_38) k_) ?_
  show own_Go p e below T4 (mkF m 39 #[.val (.int p0), .val (.int x0), .val (.int x1), .val (.int x2), .val (.int (2 : Int32)), .val (.ref b1), .unset, .unset, .unset, .unset, .unset, .unset, .unset, .unset, .unset, .unset, .unset, .unset, .unset] [(.int (1 : Int32)), (.ref b1)]) _
  refine own_st (fun t_ k_ => XS.iloadN X4.here hx rfl (hb hby at_39) rfl k_) ?_
  show own_Go p e below T4 (mkF m 40 #[.val (.int p0), .val (.int x0), .val (.int x1), .val (.int x2), .val (.int (2 : Int32)), .val (.ref b1), .unset, .unset, .unset, .unset, .unset, .unset, .unset, .unset, .unset, .unset, .unset, .unset, .unset] [(.int x1), (.int (1 : Int32)), (.ref b1)]) _
  obtain ⟨cl6, Ar6, q6, Sz6, Nn6, Hh6, Gg6⟩ := id V4
  have hin6 : ¬ ((1 : Int32) < 0 ∨ cl6.slots.size ≤ ((1 : Int32)).toNatClampNeg) := inb_of Sz6 ⟨by decide, by decide⟩
  obtain ⟨T7, h7, X7, e7, W7, st7⟩ := stI X4 hx hZ e4 Ar6 (j := (1 : Int32)) hin6 (g := (mkF m 40 #[.val (.int p0), .val (.int x0), .val (.int x1), .val (.int x2), .val (.int (2 : Int32)), .val (.ref b1), .unset, .unset, .unset, .unset, .unset, .unset, .unset, .unset, .unset, .unset, .unset, .unset, .unset] [(.int x1), (.int (1 : Int32)), (.ref b1)])) rfl rfl (hb hby at_40)
  have V7 : Arv Z h7 b1 k1 .int (2 : Int32) [(.int x0), (.int x1)] (.int (0 : Int32)) := Arv.set Ar6 q6 Sz6 Nn6 Hh6 Gg6 rfl W7 1 rfl (Nat.le_of_ble_eq_true rfl)
  have K8 : Keep h0 h7 [] := K5.wr W7 (Or.inr B1)
  have N7 := Fr.snoc X7 N4 G1
  refine own_st st7 ?_
  show own_Go p e below T7 (mkF m 41 #[.val (.int p0), .val (.int x0), .val (.int x1), .val (.int x2), .val (.int (2 : Int32)), .val (.ref b1), .unset, .unset, .unset, .unset, .unset, .unset, .unset, .unset, .unset, .unset, .unset, .unset, .unset] []) _
  refine own_st (fun t_ k_ => XS.iload X7.here hx rfl (hb hby at_41) rfl k_) ?_
  show own_Go p e below T7 (mkF m 43 #[.val (.int p0), .val (.int x0), .val (.int x1), .val (.int x2), .val (.int (2 : Int32)), .val (.ref b1), .unset, .unset, .unset, .unset, .unset, .unset, .unset, .unset, .unset, .unset, .unset, .unset, .unset] [(.int (2 : Int32))]) _
  refine own_st (fun t_ k_ => XS.iconst X7.here hx rfl (hb hby at_43) k_) ?_
  show own_Go p e below T7 (mkF m 44 #[.val (.int p0), .val (.int x0), .val (.int x1), .val (.int x2), .val (.int (2 : Int32)), .val (.ref b1), .unset, .unset, .unset, .unset, .unset, .unset, .unset, .unset, .unset, .unset, .unset, .unset, .unset] [(.int (2 : Int32)), (.int (2 : Int32))]) _
  refine own_st (fun t_ k_ => XS.icmpYes X7.here hx rfl (pc0 := 44) (pc' := 52) rfl (hb hby at_44) rfl (by decide) (by decide) (by decide) k_) ?_
  show own_Go p e below T7 (mkF m 52 #[.val (.int p0), .val (.int x0), .val (.int x1), .val (.int x2), .val (.int (2 : Int32)), .val (.ref b1), .unset, .unset, .unset, .unset, .unset, .unset, .unset, .unset, .unset, .unset, .unset, .unset, .unset] []) _
  have f9 := (Nat.le_trans (Nat.le_trans (Nat.le_trans Z0 E1.1) (Keep.of_wr W4).1) (Keep.of_wr W7).1)
  obtain ⟨T10, h10, X10, e10, E10, A10, D10, -, st10⟩ := newO X7 hx hZ hown (hw _ (List.mem_of_getElem? (i := 1) rfl)) (hw _ (List.mem_of_getElem? (i := 2) rfl)) (hw _ (List.mem_of_getElem? (i := 3) rfl)) e7 (g := (mkF m 52 #[.val (.int p0), .val (.int x0), .val (.int x1), .val (.int x2), .val (.int (2 : Int32)), .val (.ref b1), .unset, .unset, .unset, .unset, .unset, .unset, .unset, .unset, .unset, .unset, .unset, .unset, .unset] [])) rfl (hb hby at_52) (by decide) (by decide)
  obtain ⟨b10, g10⟩ : ∃ z, z = h7.size := ⟨_, rfl⟩
  rw [← g10] at A10 D10 st10
  have G10 : n0 ≤ b10 := Nat.le_trans f9 (Nat.le_of_eq g10.symm)
  have B10 : h0.size ≤ b10 := Nat.le_trans K8.1 (Nat.le_of_eq g10.symm)
  have K11 : Keep h0 h10 [] := K8.ext E10
  have D10_lengths : Fld Z h10 b10 "com/example/descriptor/descriptor/engine/index/InvertedField" "lengths" "[I" .null := D10 (Or.inr (hw _ (List.mem_of_getElem? (i := 11) rfl))) (ty := (.array .int)) (by decide)
  have D10_postings : Fld Z h10 b10 "com/example/descriptor/descriptor/engine/index/InvertedField" "postings" "Ljava/util/Map;" .null := D10 (Or.inr (hw _ (List.mem_of_getElem? (i := 13) rfl))) (ty := (.object "java/util/Map")) (by decide)
  have D10_totalLength : Fld Z h10 b10 "com/example/descriptor/descriptor/engine/index/InvertedField" "totalLength" "J" (.long (0 : Int64)) := D10 (Or.inr (hw _ (List.mem_of_getElem? (i := 15) rfl))) (ty := .long) (by decide)
  refine own_st st10 ?_
  show own_Go p e below T10 (mkF m 55 #[.val (.int p0), .val (.int x0), .val (.int x1), .val (.int x2), .val (.int (2 : Int32)), .val (.ref b1), .unset, .unset, .unset, .unset, .unset, .unset, .unset, .unset, .unset, .unset, .unset, .unset, .unset] [(.ref b10)]) _
  refine own_st (fun t_ k_ => XS.dup X10.here hx rfl (hb hby at_55) rfl rfl k_) ?_
  show own_Go p e below T10 (mkF m 56 #[.val (.int p0), .val (.int x0), .val (.int x1), .val (.int x2), .val (.int (2 : Int32)), .val (.ref b1), .unset, .unset, .unset, .unset, .unset, .unset, .unset, .unset, .unset, .unset, .unset, .unset, .unset] [(.ref b10), (.ref b10)]) _
  refine own_st (fun t_ k_ => XS.aload X10.here hx rfl (hb hby at_56) rfl rfl k_) ?_
  show own_Go p e below T10 (mkF m 58 #[.val (.int p0), .val (.int x0), .val (.int x1), .val (.int x2), .val (.int (2 : Int32)), .val (.ref b1), .unset, .unset, .unset, .unset, .unset, .unset, .unset, .unset, .unset, .unset, .unset, .unset, .unset] [(.ref b1), (.ref b10), (.ref b10)]) _
  refine own_st (fun t_ k_ => XS.aconstNull X10.here hx rfl (hb hby at_58) k_) ?_
  show own_Go p e below T10 (mkF m 59 #[.val (.int p0), .val (.int x0), .val (.int x1), .val (.int x2), .val (.int (2 : Int32)), .val (.ref b1), .unset, .unset, .unset, .unset, .unset, .unset, .unset, .unset, .unset, .unset, .unset, .unset, .unset] [.null, (.ref b1), (.ref b10), (.ref b10)]) _
  have f12 := (Nat.le_trans f9 E10.1)
  have f13 := (V7.ext E10)
  obtain ⟨_, _, ⟨T14, L14, k14, n14⟩, -, X14, ⟨Lc14, hQ14, l14, y14, z14⟩, st14⟩ := X10.specialBack hx (y := (⟨"com/example/descriptor/descriptor/engine/index/InvertedField", "<init>", "([ILjava/util/Map;)V"⟩ : MethodName)) rfl hown (mvT hZ (hw _ (List.mem_of_getElem? (i := 4) rfl))) (mvT hZ (hw _ (List.mem_of_getElem? (i := 5) rfl))) (mvT hZ (hw _ (List.mem_of_getElem? (i := 6) rfl))) (by decide) (backOf (W := 1) (rmIn2 l Z a0 hw [] b10 b1 k1 _ _ .null .null ((.long (0 : Int64))) h10 n0 f12 A10 D10_lengths D10_postings D10_totalLength G10 f13) hZ (hw _ (List.mem_of_getElem? (i := 6) rfl)) (hw _ (List.mem_of_getElem? (i := 3) rfl)) (by decide) (by decide)) (g := (mkF m 59 #[.val (.int p0), .val (.int x0), .val (.int x1), .val (.int x2), .val (.int (2 : Int32)), .val (.ref b1), .unset, .unset, .unset, .unset, .unset, .unset, .unset, .unset, .unset, .unset, .unset, .unset, .unset] [.null, (.ref b1), (.ref b10), (.ref b10)])) rfl (by rw [hml]; rfl) (Steps.refl _) (a := b10) (argsL := [(.ref b1), .null]) (rest := [(.ref b10)]) (lenOf pd___ILjava_util_Map__V rfl) rfl (by show 2 * 0 + _ ≤ _; exact Nat.le_of_eq rfl) (hb hby at_59) (fun _ _ => ⟨rfl, e10, (by decide : 2 + 0 ≤ _), (by decide : 5 + 0 ≤ _)⟩)
  dsimp only [Pt.U, Pt.locs, Pt.cells, Pt.slots] at X14 l14 y14 z14 st14 hQ14
  subst l14 y14 z14
  obtain ⟨rfl, Nq14, Kq14, q14_0, q14_1, q14_2, q14_3⟩ := hQ14
  have N14 := Fr.app N7 Nq14
  have K15 : Keep h0 T14.heap [] := K11.trans Kq14 (allS (Or.inr B10) all0)
  refine own_tr st14 ?_
  show own_Go p e below T14 (mkF m 62 #[.val (.int p0), .val (.int x0), .val (.int x1), .val (.int x2), .val (.int (2 : Int32)), .val (.ref b1), .unset, .unset, .unset, .unset, .unset, .unset, .unset, .unset, .unset, .unset, .unset, .unset, .unset] [(.ref b10)]) _
  refine own_st (fun t_ k_ => XS.astore X14.here hx rfl (hb hby at_62) rfl rfl (l' := #[.val (.int p0), .val (.int x0), .val (.int x1), .val (.int x2), .val (.int (2 : Int32)), .val (.ref b1), .val (.ref b10), .unset, .unset, .unset, .unset, .unset, .unset, .unset, .unset, .unset, .unset, .unset, .unset]) rfl k_) ?_
  show own_Go p e below T14 (mkF m 64 #[.val (.int p0), .val (.int x0), .val (.int x1), .val (.int x2), .val (.int (2 : Int32)), .val (.ref b1), .val (.ref b10), .unset, .unset, .unset, .unset, .unset, .unset, .unset, .unset, .unset, .unset, .unset, .unset] []) _
  refine own_st (fun t_ k_ => XS.aload X14.here hx rfl (hb hby at_64) rfl rfl k_) ?_
  show own_Go p e below T14 (mkF m 66 #[.val (.int p0), .val (.int x0), .val (.int x1), .val (.int x2), .val (.int (2 : Int32)), .val (.ref b1), .val (.ref b10), .unset, .unset, .unset, .unset, .unset, .unset, .unset, .unset, .unset, .unset, .unset, .unset] [(.ref b10)]) _
  have e_x0 : x0.toInt64.toInt = x0.toInt := Int32.toInt_toInt64 x0
  have r_x0 := rng32 x0
  have e_x1 : x1.toInt64.toInt = x1.toInt := Int32.toInt_toInt64 x1
  have r_x1 := rng32 x1
  have e_x2 : x2.toInt64.toInt = x2.toInt := Int32.toInt_toInt64 x2
  have r_x2 := rng32 x2
  have s0 : ((0 : Int64) + (x0.toInt64)).toInt = x0.toInt := by
    have h := c_ladd (0 : Int64) x0.toInt64
    have rr := rng64 ((0 : Int64) + x0.toInt64)
    have z0 : (0 : Int64).toInt = 0 := rfl
    omega
  have s1 : (((0 : Int64) + (x0.toInt64)) + (x1.toInt64)).toInt = x0.toInt + x1.toInt := by
    have h := c_ladd ((0 : Int64) + (x0.toInt64)) x1.toInt64
    have rr := rng64 (((0 : Int64) + (x0.toInt64)) + x1.toInt64)
    have z0 : (0 : Int64).toInt = 0 := rfl
    omega
  have hsame : ((x0.toInt64) + (x1.toInt64)) = (((0 : Int64) + (x0.toInt64)) + (x1.toInt64)) := by
    rw [Int64.zero_add]
  have hs : (((0 : Int64) + (x0.toInt64)) + (x1.toInt64)).toInt.natAbs ≤ 2 ^ 53 := by rw [s1]; omega
  have f16 := (Nat.le_trans f12 Kq14.1)
  obtain ⟨cq17, kq17, qa17, qb17, qc17⟩ := isOf hZ rfl q14_0
  obtain ⟨_, _, ⟨T17, L17, k17, n17⟩, -, X17, ⟨Lc17, hQ17, l17, y17, z17⟩, st17⟩ := X14.virtualBack hx (y := (⟨"com/example/descriptor/descriptor/engine/index/InvertedField", "averageLength", "()D"⟩ : MethodName)) (z := (⟨"com/example/descriptor/descriptor/engine/index/InvertedField", "averageLength", "()D"⟩ : MethodName)) hown (mvT hZ (hw _ (List.mem_of_getElem? (i := 16) rfl))) (mvT hZ (hw _ (List.mem_of_getElem? (i := 17) rfl))) (notFace_of_selects (args := #[]) (mvT hZ (hw _ (List.mem_of_getElem? (i := 19) rfl)))) (mvT hZ (hw _ (List.mem_of_getElem? (i := 19) rfl))) (mvT hZ (hw _ (List.mem_of_getElem? (i := 18) rfl))) (by decide) (backOf (W := 0) (rmAv2 l Z a0 hw [] b10 b1 k1 _ _ ((((0 : Int64) + (x0.toInt64)) + (x1.toInt64))) T14.heap n0 f16 q14_1 q14_2 q14_3 hs) hZ (hw _ (List.mem_of_getElem? (i := 20) rfl)) (hw _ (List.mem_of_getElem? (i := 3) rfl)) (by decide) (by decide)) qa17 qc17 (g := (mkF m 66 #[.val (.int p0), .val (.int x0), .val (.int x1), .val (.int x2), .val (.int (2 : Int32)), .val (.ref b1), .val (.ref b10), .unset, .unset, .unset, .unset, .unset, .unset, .unset, .unset, .unset, .unset, .unset, .unset] [(.ref b10)])) rfl (by rw [hml]; rfl) (Steps.refl _) (argsL := []) (rest := []) (lenOf pd___D rfl) rfl (by show 2 * 0 + _ ≤ _; exact Nat.le_of_eq rfl) (hb hby at_66) (fun _ _ => ⟨rfl, rfl, (by decide : 2 + 0 ≤ _), (by decide : 5 + 0 ≤ _)⟩)
  dsimp only [Pt.U, Pt.locs, Pt.cells, Pt.slots] at X17 l17 y17 z17 st17 hQ17
  subst l17 y17 z17
  obtain ⟨rfl, Nq17, eH17⟩ := hQ17
  have N17 := Fr.app N14 Nq17
  refine own_tr st17 ?_
  show own_Go p e below T17 (mkF m 69 #[.val (.int p0), .val (.int x0), .val (.int x1), .val (.int x2), .val (.int (2 : Int32)), .val (.ref b1), .val (.ref b10), .unset, .unset, .unset, .unset, .unset, .unset, .unset, .unset, .unset, .unset, .unset, .unset] [(.double (own_avg (((0 : Int64) + (x0.toInt64)) + (x1.toInt64)) (2 : Int32)))]) _
  refine own_st (fun t_ k_ => XS.dstore X17.here hx rfl (hb hby at_69) rfl (l' := #[.val (.int p0), .val (.int x0), .val (.int x1), .val (.int x2), .val (.int (2 : Int32)), .val (.ref b1), .val (.ref b10), .val (.double (own_avg (((0 : Int64) + (x0.toInt64)) + (x1.toInt64)) (2 : Int32))), .second, .unset, .unset, .unset, .unset, .unset, .unset, .unset, .unset, .unset, .unset]) rfl k_) ?_
  show own_Go p e below T17 (mkF m 71 #[.val (.int p0), .val (.int x0), .val (.int x1), .val (.int x2), .val (.int (2 : Int32)), .val (.ref b1), .val (.ref b10), .val (.double (own_avg (((0 : Int64) + (x0.toInt64)) + (x1.toInt64)) (2 : Int32))), .second, .unset, .unset, .unset, .unset, .unset, .unset, .unset, .unset, .unset, .unset] []) _
  refine own_st (fun t_ k_ => XS.iload X17.here hx rfl (hb hby at_71) rfl k_) ?_
  show own_Go p e below T17 (mkF m 73 #[.val (.int p0), .val (.int x0), .val (.int x1), .val (.int x2), .val (.int (2 : Int32)), .val (.ref b1), .val (.ref b10), .val (.double (own_avg (((0 : Int64) + (x0.toInt64)) + (x1.toInt64)) (2 : Int32))), .second, .unset, .unset, .unset, .unset, .unset, .unset, .unset, .unset, .unset, .unset] [(.int (2 : Int32))]) _
  refine own_st (fun t_ k_ => XS.ifYes X17.here hx rfl (pc0 := 73) (pc' := 89) rfl (hb hby at_73) rfl (by decide) (by decide) (by decide) k_) ?_
  show own_Go p e below T17 (mkF m 89 #[.val (.int p0), .val (.int x0), .val (.int x1), .val (.int x2), .val (.int (2 : Int32)), .val (.ref b1), .val (.ref b10), .val (.double (own_avg (((0 : Int64) + (x0.toInt64)) + (x1.toInt64)) (2 : Int32))), .second, .unset, .unset, .unset, .unset, .unset, .unset, .unset, .unset, .unset, .unset] []) _
  refine own_st (fun t_ k_ => XS.iloadN X17.here hx rfl (hb hby at_89) rfl k_) ?_
  show own_Go p e below T17 (mkF m 90 #[.val (.int p0), .val (.int x0), .val (.int x1), .val (.int x2), .val (.int (2 : Int32)), .val (.ref b1), .val (.ref b10), .val (.double (own_avg (((0 : Int64) + (x0.toInt64)) + (x1.toInt64)) (2 : Int32))), .second, .unset, .unset, .unset, .unset, .unset, .unset, .unset, .unset, .unset, .unset] [(.int x0)]) _
  refine own_st (fun t_ k_ => XS.i2l X17.here hx rfl (hb hby at_90) rfl k_) ?_
  show own_Go p e below T17 (mkF m 91 #[.val (.int p0), .val (.int x0), .val (.int x1), .val (.int x2), .val (.int (2 : Int32)), .val (.ref b1), .val (.ref b10), .val (.double (own_avg (((0 : Int64) + (x0.toInt64)) + (x1.toInt64)) (2 : Int32))), .second, .unset, .unset, .unset, .unset, .unset, .unset, .unset, .unset, .unset, .unset] [(.long (x0.toInt64))]) _
  refine own_st (fun t_ k_ => XS.lstore X17.here hx rfl (hb hby at_91) rfl (l' := #[.val (.int p0), .val (.int x0), .val (.int x1), .val (.int x2), .val (.int (2 : Int32)), .val (.ref b1), .val (.ref b10), .val (.double (own_avg (((0 : Int64) + (x0.toInt64)) + (x1.toInt64)) (2 : Int32))), .second, .val (.long (x0.toInt64)), .second, .unset, .unset, .unset, .unset, .unset, .unset, .unset, .unset]) rfl k_) ?_
  show own_Go p e below T17 (mkF m 93 #[.val (.int p0), .val (.int x0), .val (.int x1), .val (.int x2), .val (.int (2 : Int32)), .val (.ref b1), .val (.ref b10), .val (.double (own_avg (((0 : Int64) + (x0.toInt64)) + (x1.toInt64)) (2 : Int32))), .second, .val (.long (x0.toInt64)), .second, .unset, .unset, .unset, .unset, .unset, .unset, .unset, .unset] []) _
  refine own_st (fun t_ k_ => XS.iloadN X17.here hx rfl (hb hby at_93) rfl k_) ?_
  show own_Go p e below T17 (mkF m 94 #[.val (.int p0), .val (.int x0), .val (.int x1), .val (.int x2), .val (.int (2 : Int32)), .val (.ref b1), .val (.ref b10), .val (.double (own_avg (((0 : Int64) + (x0.toInt64)) + (x1.toInt64)) (2 : Int32))), .second, .val (.long (x0.toInt64)), .second, .unset, .unset, .unset, .unset, .unset, .unset, .unset, .unset] [(.int x0)]) _
  refine own_st (fun t_ k_ => XS.i2l X17.here hx rfl (hb hby at_94) rfl k_) ?_
  show own_Go p e below T17 (mkF m 95 #[.val (.int p0), .val (.int x0), .val (.int x1), .val (.int x2), .val (.int (2 : Int32)), .val (.ref b1), .val (.ref b10), .val (.double (own_avg (((0 : Int64) + (x0.toInt64)) + (x1.toInt64)) (2 : Int32))), .second, .val (.long (x0.toInt64)), .second, .unset, .unset, .unset, .unset, .unset, .unset, .unset, .unset] [(.long (x0.toInt64))]) _
  refine own_st (fun t_ k_ => XS.lstore X17.here hx rfl (hb hby at_95) rfl (l' := #[.val (.int p0), .val (.int x0), .val (.int x1), .val (.int x2), .val (.int (2 : Int32)), .val (.ref b1), .val (.ref b10), .val (.double (own_avg (((0 : Int64) + (x0.toInt64)) + (x1.toInt64)) (2 : Int32))), .second, .val (.long (x0.toInt64)), .second, .val (.long (x0.toInt64)), .second, .unset, .unset, .unset, .unset, .unset, .unset]) rfl k_) ?_
  show own_Go p e below T17 (mkF m 97 #[.val (.int p0), .val (.int x0), .val (.int x1), .val (.int x2), .val (.int (2 : Int32)), .val (.ref b1), .val (.ref b10), .val (.double (own_avg (((0 : Int64) + (x0.toInt64)) + (x1.toInt64)) (2 : Int32))), .second, .val (.long (x0.toInt64)), .second, .val (.long (x0.toInt64)), .second, .unset, .unset, .unset, .unset, .unset, .unset] []) _
  refine own_st (fun t_ k_ => XS.iloadN X17.here hx rfl (hb hby at_97) rfl k_) ?_
  show own_Go p e below T17 (mkF m 98 #[.val (.int p0), .val (.int x0), .val (.int x1), .val (.int x2), .val (.int (2 : Int32)), .val (.ref b1), .val (.ref b10), .val (.double (own_avg (((0 : Int64) + (x0.toInt64)) + (x1.toInt64)) (2 : Int32))), .second, .val (.long (x0.toInt64)), .second, .val (.long (x0.toInt64)), .second, .unset, .unset, .unset, .unset, .unset, .unset] [(.int x0)]) _
  refine own_st (fun t_ k_ => XS.i2l X17.here hx rfl (hb hby at_98) rfl k_) ?_
  show own_Go p e below T17 (mkF m 99 #[.val (.int p0), .val (.int x0), .val (.int x1), .val (.int x2), .val (.int (2 : Int32)), .val (.ref b1), .val (.ref b10), .val (.double (own_avg (((0 : Int64) + (x0.toInt64)) + (x1.toInt64)) (2 : Int32))), .second, .val (.long (x0.toInt64)), .second, .val (.long (x0.toInt64)), .second, .unset, .unset, .unset, .unset, .unset, .unset] [(.long (x0.toInt64))]) _
  refine own_st (fun t_ k_ => XS.lstore X17.here hx rfl (hb hby at_99) rfl (l' := #[.val (.int p0), .val (.int x0), .val (.int x1), .val (.int x2), .val (.int (2 : Int32)), .val (.ref b1), .val (.ref b10), .val (.double (own_avg (((0 : Int64) + (x0.toInt64)) + (x1.toInt64)) (2 : Int32))), .second, .val (.long (x0.toInt64)), .second, .val (.long (x0.toInt64)), .second, .val (.long (x0.toInt64)), .second, .unset, .unset, .unset, .unset]) rfl k_) ?_
  show own_Go p e below T17 (mkF m 101 #[.val (.int p0), .val (.int x0), .val (.int x1), .val (.int x2), .val (.int (2 : Int32)), .val (.ref b1), .val (.ref b10), .val (.double (own_avg (((0 : Int64) + (x0.toInt64)) + (x1.toInt64)) (2 : Int32))), .second, .val (.long (x0.toInt64)), .second, .val (.long (x0.toInt64)), .second, .val (.long (x0.toInt64)), .second, .unset, .unset, .unset, .unset] []) _
  refine own_st (fun t_ k_ => XS.iload X17.here hx rfl (hb hby at_101) rfl k_) ?_
  show own_Go p e below T17 (mkF m 103 #[.val (.int p0), .val (.int x0), .val (.int x1), .val (.int x2), .val (.int (2 : Int32)), .val (.ref b1), .val (.ref b10), .val (.double (own_avg (((0 : Int64) + (x0.toInt64)) + (x1.toInt64)) (2 : Int32))), .second, .val (.long (x0.toInt64)), .second, .val (.long (x0.toInt64)), .second, .val (.long (x0.toInt64)), .second, .unset, .unset, .unset, .unset] [(.int (2 : Int32))]) _
  refine own_st (fun t_ k_ => XS.iconst X17.here hx rfl (hb hby at_103) k_) ?_
  show own_Go p e below T17 (mkF m 104 #[.val (.int p0), .val (.int x0), .val (.int x1), .val (.int x2), .val (.int (2 : Int32)), .val (.ref b1), .val (.ref b10), .val (.double (own_avg (((0 : Int64) + (x0.toInt64)) + (x1.toInt64)) (2 : Int32))), .second, .val (.long (x0.toInt64)), .second, .val (.long (x0.toInt64)), .second, .val (.long (x0.toInt64)), .second, .unset, .unset, .unset, .unset] [(.int (1 : Int32)), (.int (2 : Int32))]) _
  refine own_st (fun t_ k_ => XS.icmpNo X17.here hx rfl (hb hby at_104) rfl (by decide) k_) ?_
  show own_Go p e below T17 (mkF m 107 #[.val (.int p0), .val (.int x0), .val (.int x1), .val (.int x2), .val (.int (2 : Int32)), .val (.ref b1), .val (.ref b10), .val (.double (own_avg (((0 : Int64) + (x0.toInt64)) + (x1.toInt64)) (2 : Int32))), .second, .val (.long (x0.toInt64)), .second, .val (.long (x0.toInt64)), .second, .val (.long (x0.toInt64)), .second, .unset, .unset, .unset, .unset] []) _
  refine own_st (fun t_ k_ => XS.lload X17.here hx rfl (hb hby at_107) rfl k_) ?_
  show own_Go p e below T17 (mkF m 109 #[.val (.int p0), .val (.int x0), .val (.int x1), .val (.int x2), .val (.int (2 : Int32)), .val (.ref b1), .val (.ref b10), .val (.double (own_avg (((0 : Int64) + (x0.toInt64)) + (x1.toInt64)) (2 : Int32))), .second, .val (.long (x0.toInt64)), .second, .val (.long (x0.toInt64)), .second, .val (.long (x0.toInt64)), .second, .unset, .unset, .unset, .unset] [(.long (x0.toInt64))]) _
  refine own_st (fun t_ k_ => XS.iloadN X17.here hx rfl (hb hby at_109) rfl k_) ?_
  show own_Go p e below T17 (mkF m 110 #[.val (.int p0), .val (.int x0), .val (.int x1), .val (.int x2), .val (.int (2 : Int32)), .val (.ref b1), .val (.ref b10), .val (.double (own_avg (((0 : Int64) + (x0.toInt64)) + (x1.toInt64)) (2 : Int32))), .second, .val (.long (x0.toInt64)), .second, .val (.long (x0.toInt64)), .second, .val (.long (x0.toInt64)), .second, .unset, .unset, .unset, .unset] [(.int x1), (.long (x0.toInt64))]) _
  refine own_st (fun t_ k_ => XS.i2l X17.here hx rfl (hb hby at_110) rfl k_) ?_
  show own_Go p e below T17 (mkF m 111 #[.val (.int p0), .val (.int x0), .val (.int x1), .val (.int x2), .val (.int (2 : Int32)), .val (.ref b1), .val (.ref b10), .val (.double (own_avg (((0 : Int64) + (x0.toInt64)) + (x1.toInt64)) (2 : Int32))), .second, .val (.long (x0.toInt64)), .second, .val (.long (x0.toInt64)), .second, .val (.long (x0.toInt64)), .second, .unset, .unset, .unset, .unset] [(.long (x1.toInt64)), (.long (x0.toInt64))]) _
  refine own_st (fun t_ k_ => XS.ladd X17.here hx rfl (hb hby at_111) rfl k_) ?_
  show own_Go p e below T17 (mkF m 112 #[.val (.int p0), .val (.int x0), .val (.int x1), .val (.int x2), .val (.int (2 : Int32)), .val (.ref b1), .val (.ref b10), .val (.double (own_avg (((0 : Int64) + (x0.toInt64)) + (x1.toInt64)) (2 : Int32))), .second, .val (.long (x0.toInt64)), .second, .val (.long (x0.toInt64)), .second, .val (.long (x0.toInt64)), .second, .unset, .unset, .unset, .unset] [(.long ((x0.toInt64) + (x1.toInt64)))]) _
  refine own_st (fun t_ k_ => XS.lstore X17.here hx rfl (hb hby at_112) rfl (l' := #[.val (.int p0), .val (.int x0), .val (.int x1), .val (.int x2), .val (.int (2 : Int32)), .val (.ref b1), .val (.ref b10), .val (.double (own_avg (((0 : Int64) + (x0.toInt64)) + (x1.toInt64)) (2 : Int32))), .second, .val (.long ((x0.toInt64) + (x1.toInt64))), .second, .val (.long (x0.toInt64)), .second, .val (.long (x0.toInt64)), .second, .unset, .unset, .unset, .unset]) rfl k_) ?_
  show own_Go p e below T17 (mkF m 114 #[.val (.int p0), .val (.int x0), .val (.int x1), .val (.int x2), .val (.int (2 : Int32)), .val (.ref b1), .val (.ref b10), .val (.double (own_avg (((0 : Int64) + (x0.toInt64)) + (x1.toInt64)) (2 : Int32))), .second, .val (.long ((x0.toInt64) + (x1.toInt64))), .second, .val (.long (x0.toInt64)), .second, .val (.long (x0.toInt64)), .second, .unset, .unset, .unset, .unset] []) _
  refine own_st (fun t_ k_ => XS.lload X17.here hx rfl (hb hby at_114) rfl k_) ?_
  show own_Go p e below T17 (mkF m 116 #[.val (.int p0), .val (.int x0), .val (.int x1), .val (.int x2), .val (.int (2 : Int32)), .val (.ref b1), .val (.ref b10), .val (.double (own_avg (((0 : Int64) + (x0.toInt64)) + (x1.toInt64)) (2 : Int32))), .second, .val (.long ((x0.toInt64) + (x1.toInt64))), .second, .val (.long (x0.toInt64)), .second, .val (.long (x0.toInt64)), .second, .unset, .unset, .unset, .unset] [(.long (x0.toInt64))]) _
  refine own_st (fun t_ k_ => XS.iloadN X17.here hx rfl (hb hby at_116) rfl k_) ?_
  show own_Go p e below T17 (mkF m 117 #[.val (.int p0), .val (.int x0), .val (.int x1), .val (.int x2), .val (.int (2 : Int32)), .val (.ref b1), .val (.ref b10), .val (.double (own_avg (((0 : Int64) + (x0.toInt64)) + (x1.toInt64)) (2 : Int32))), .second, .val (.long ((x0.toInt64) + (x1.toInt64))), .second, .val (.long (x0.toInt64)), .second, .val (.long (x0.toInt64)), .second, .unset, .unset, .unset, .unset] [(.int x1), (.long (x0.toInt64))]) _
  refine own_st (fun t_ k_ => XS.i2l X17.here hx rfl (hb hby at_117) rfl k_) ?_
  show own_Go p e below T17 (mkF m 118 #[.val (.int p0), .val (.int x0), .val (.int x1), .val (.int x2), .val (.int (2 : Int32)), .val (.ref b1), .val (.ref b10), .val (.double (own_avg (((0 : Int64) + (x0.toInt64)) + (x1.toInt64)) (2 : Int32))), .second, .val (.long ((x0.toInt64) + (x1.toInt64))), .second, .val (.long (x0.toInt64)), .second, .val (.long (x0.toInt64)), .second, .unset, .unset, .unset, .unset] [(.long (x1.toInt64)), (.long (x0.toInt64))]) _
  obtain ⟨_, _, ⟨T18, L18, k18, n18⟩, -, X18, ⟨Lc18, hQ18, l18, y18, z18⟩, st18⟩ := Jvm.LawKit.callS X17 hx (y := (⟨"java/lang/Math", "min", "(JJ)J"⟩ : MethodName)) hown (mvT hZ (hw _ (List.mem_of_getElem? (i := 21) rfl))) (mvT hZ (hw _ (List.mem_of_getElem? (i := 22) rfl))) (mvT hZ (hw _ (List.mem_of_getElem? (i := 23) rfl))) (mvT hZ (hw _ (List.mem_of_getElem? (i := 24) rfl))) (by decide) (backOf (W := 0) (rmMin l Z a0 hw [] ((x0.toInt64)) ((x1.toInt64)) T14.heap n0 f16 ) hZ (hw _ (List.mem_of_getElem? (i := 24) rfl)) (hw _ (List.mem_of_getElem? (i := 23) rfl)) (by decide) (by decide)) (g := (mkF m 118 #[.val (.int p0), .val (.int x0), .val (.int x1), .val (.int x2), .val (.int (2 : Int32)), .val (.ref b1), .val (.ref b10), .val (.double (own_avg (((0 : Int64) + (x0.toInt64)) + (x1.toInt64)) (2 : Int32))), .second, .val (.long ((x0.toInt64) + (x1.toInt64))), .second, .val (.long (x0.toInt64)), .second, .val (.long (x0.toInt64)), .second, .unset, .unset, .unset, .unset] [(.long (x1.toInt64)), (.long (x0.toInt64))])) rfl (by rw [hml]; rfl) (argsL := [(.long (x0.toInt64)), (.long (x1.toInt64))]) (rest := []) (lenOf pd__JJ_J rfl) rfl (by show 2 * 0 + _ ≤ _; exact Nat.le_of_eq rfl) (hb hby at_118) (fun _ _ => ⟨rfl, eH17, (by decide : 2 + 0 ≤ _), (by decide : 5 + 0 ≤ _)⟩)
  dsimp only [Pt.U, Pt.locs, Pt.cells, Pt.slots] at X18 l18 y18 z18 st18 hQ18
  subst l18 y18 z18
  obtain ⟨r_18, rfl, Nq18, eH18, q18_0⟩ := hQ18
  have N18 := Fr.app N17 Nq18
  refine own_st st18 ?_
  show own_Go p e below T18 (mkF m 121 #[.val (.int p0), .val (.int x0), .val (.int x1), .val (.int x2), .val (.int (2 : Int32)), .val (.ref b1), .val (.ref b10), .val (.double (own_avg (((0 : Int64) + (x0.toInt64)) + (x1.toInt64)) (2 : Int32))), .second, .val (.long ((x0.toInt64) + (x1.toInt64))), .second, .val (.long (x0.toInt64)), .second, .val (.long (x0.toInt64)), .second, .unset, .unset, .unset, .unset] [(.long r_18)]) _
  have b18 : r_18.toInt ≤ (x0.toInt64).toInt ∧ r_18.toInt ≤ (x1.toInt64).toInt ∧ (r_18.toInt = (x0.toInt64).toInt ∨ r_18.toInt = (x1.toInt64).toInt) := by rcases q18_0 with ⟨h, rfl⟩ | ⟨h, rfl⟩ <;> omega
  refine own_st (fun t_ k_ => XS.lstore X18.here hx rfl (hb hby at_121) rfl (l' := #[.val (.int p0), .val (.int x0), .val (.int x1), .val (.int x2), .val (.int (2 : Int32)), .val (.ref b1), .val (.ref b10), .val (.double (own_avg (((0 : Int64) + (x0.toInt64)) + (x1.toInt64)) (2 : Int32))), .second, .val (.long ((x0.toInt64) + (x1.toInt64))), .second, .val (.long r_18), .second, .val (.long (x0.toInt64)), .second, .unset, .unset, .unset, .unset]) rfl k_) ?_
  show own_Go p e below T18 (mkF m 123 #[.val (.int p0), .val (.int x0), .val (.int x1), .val (.int x2), .val (.int (2 : Int32)), .val (.ref b1), .val (.ref b10), .val (.double (own_avg (((0 : Int64) + (x0.toInt64)) + (x1.toInt64)) (2 : Int32))), .second, .val (.long ((x0.toInt64) + (x1.toInt64))), .second, .val (.long r_18), .second, .val (.long (x0.toInt64)), .second, .unset, .unset, .unset, .unset] []) _
  refine own_st (fun t_ k_ => XS.lload X18.here hx rfl (hb hby at_123) rfl k_) ?_
  show own_Go p e below T18 (mkF m 125 #[.val (.int p0), .val (.int x0), .val (.int x1), .val (.int x2), .val (.int (2 : Int32)), .val (.ref b1), .val (.ref b10), .val (.double (own_avg (((0 : Int64) + (x0.toInt64)) + (x1.toInt64)) (2 : Int32))), .second, .val (.long ((x0.toInt64) + (x1.toInt64))), .second, .val (.long r_18), .second, .val (.long (x0.toInt64)), .second, .unset, .unset, .unset, .unset] [(.long (x0.toInt64))]) _
  refine own_st (fun t_ k_ => XS.iloadN X18.here hx rfl (hb hby at_125) rfl k_) ?_
  show own_Go p e below T18 (mkF m 126 #[.val (.int p0), .val (.int x0), .val (.int x1), .val (.int x2), .val (.int (2 : Int32)), .val (.ref b1), .val (.ref b10), .val (.double (own_avg (((0 : Int64) + (x0.toInt64)) + (x1.toInt64)) (2 : Int32))), .second, .val (.long ((x0.toInt64) + (x1.toInt64))), .second, .val (.long r_18), .second, .val (.long (x0.toInt64)), .second, .unset, .unset, .unset, .unset] [(.int x1), (.long (x0.toInt64))]) _
  refine own_st (fun t_ k_ => XS.i2l X18.here hx rfl (hb hby at_126) rfl k_) ?_
  show own_Go p e below T18 (mkF m 127 #[.val (.int p0), .val (.int x0), .val (.int x1), .val (.int x2), .val (.int (2 : Int32)), .val (.ref b1), .val (.ref b10), .val (.double (own_avg (((0 : Int64) + (x0.toInt64)) + (x1.toInt64)) (2 : Int32))), .second, .val (.long ((x0.toInt64) + (x1.toInt64))), .second, .val (.long r_18), .second, .val (.long (x0.toInt64)), .second, .unset, .unset, .unset, .unset] [(.long (x1.toInt64)), (.long (x0.toInt64))]) _
  obtain ⟨_, _, ⟨T19, L19, k19, n19⟩, -, X19, ⟨Lc19, hQ19, l19, y19, z19⟩, st19⟩ := Jvm.LawKit.callS X18 hx (y := (⟨"java/lang/Math", "max", "(JJ)J"⟩ : MethodName)) hown (mvT hZ (hw _ (List.mem_of_getElem? (i := 25) rfl))) (mvT hZ (hw _ (List.mem_of_getElem? (i := 26) rfl))) (mvT hZ (hw _ (List.mem_of_getElem? (i := 23) rfl))) (mvT hZ (hw _ (List.mem_of_getElem? (i := 27) rfl))) (by decide) (backOf (W := 0) (rmMax l Z a0 hw [] ((x0.toInt64)) ((x1.toInt64)) T14.heap n0 f16 ) hZ (hw _ (List.mem_of_getElem? (i := 27) rfl)) (hw _ (List.mem_of_getElem? (i := 23) rfl)) (by decide) (by decide)) (g := (mkF m 127 #[.val (.int p0), .val (.int x0), .val (.int x1), .val (.int x2), .val (.int (2 : Int32)), .val (.ref b1), .val (.ref b10), .val (.double (own_avg (((0 : Int64) + (x0.toInt64)) + (x1.toInt64)) (2 : Int32))), .second, .val (.long ((x0.toInt64) + (x1.toInt64))), .second, .val (.long r_18), .second, .val (.long (x0.toInt64)), .second, .unset, .unset, .unset, .unset] [(.long (x1.toInt64)), (.long (x0.toInt64))])) rfl (by rw [hml]; rfl) (argsL := [(.long (x0.toInt64)), (.long (x1.toInt64))]) (rest := []) (lenOf pd__JJ_J rfl) rfl (by show 2 * 0 + _ ≤ _; exact Nat.le_of_eq rfl) (hb hby at_127) (fun _ _ => ⟨rfl, eH18, (by decide : 2 + 0 ≤ _), (by decide : 5 + 0 ≤ _)⟩)
  dsimp only [Pt.U, Pt.locs, Pt.cells, Pt.slots] at X19 l19 y19 z19 st19 hQ19
  subst l19 y19 z19
  obtain ⟨r_19, rfl, Nq19, eH19, q19_0⟩ := hQ19
  have N19 := Fr.app N18 Nq19
  refine own_st st19 ?_
  show own_Go p e below T19 (mkF m 130 #[.val (.int p0), .val (.int x0), .val (.int x1), .val (.int x2), .val (.int (2 : Int32)), .val (.ref b1), .val (.ref b10), .val (.double (own_avg (((0 : Int64) + (x0.toInt64)) + (x1.toInt64)) (2 : Int32))), .second, .val (.long ((x0.toInt64) + (x1.toInt64))), .second, .val (.long r_18), .second, .val (.long (x0.toInt64)), .second, .unset, .unset, .unset, .unset] [(.long r_19)]) _
  have b19 : (x0.toInt64).toInt ≤ r_19.toInt ∧ (x1.toInt64).toInt ≤ r_19.toInt ∧ (r_19.toInt = (x0.toInt64).toInt ∨ r_19.toInt = (x1.toInt64).toInt) := by rcases q19_0 with ⟨h, rfl⟩ | ⟨h, rfl⟩ <;> omega
  refine own_st (fun t_ k_ => XS.lstore X19.here hx rfl (hb hby at_130) rfl (l' := #[.val (.int p0), .val (.int x0), .val (.int x1), .val (.int x2), .val (.int (2 : Int32)), .val (.ref b1), .val (.ref b10), .val (.double (own_avg (((0 : Int64) + (x0.toInt64)) + (x1.toInt64)) (2 : Int32))), .second, .val (.long ((x0.toInt64) + (x1.toInt64))), .second, .val (.long r_18), .second, .val (.long r_19), .second, .unset, .unset, .unset, .unset]) rfl k_) ?_
  show own_Go p e below T19 (mkF m 132 #[.val (.int p0), .val (.int x0), .val (.int x1), .val (.int x2), .val (.int (2 : Int32)), .val (.ref b1), .val (.ref b10), .val (.double (own_avg (((0 : Int64) + (x0.toInt64)) + (x1.toInt64)) (2 : Int32))), .second, .val (.long ((x0.toInt64) + (x1.toInt64))), .second, .val (.long r_18), .second, .val (.long r_19), .second, .unset, .unset, .unset, .unset] []) _
  refine own_st (fun t_ k_ => XS.iload X19.here hx rfl (hb hby at_132) rfl k_) ?_
  show own_Go p e below T19 (mkF m 134 #[.val (.int p0), .val (.int x0), .val (.int x1), .val (.int x2), .val (.int (2 : Int32)), .val (.ref b1), .val (.ref b10), .val (.double (own_avg (((0 : Int64) + (x0.toInt64)) + (x1.toInt64)) (2 : Int32))), .second, .val (.long ((x0.toInt64) + (x1.toInt64))), .second, .val (.long r_18), .second, .val (.long r_19), .second, .unset, .unset, .unset, .unset] [(.int (2 : Int32))]) _
  refine own_st (fun t_ k_ => XS.iconst X19.here hx rfl (hb hby at_134) k_) ?_
  show own_Go p e below T19 (mkF m 135 #[.val (.int p0), .val (.int x0), .val (.int x1), .val (.int x2), .val (.int (2 : Int32)), .val (.ref b1), .val (.ref b10), .val (.double (own_avg (((0 : Int64) + (x0.toInt64)) + (x1.toInt64)) (2 : Int32))), .second, .val (.long ((x0.toInt64) + (x1.toInt64))), .second, .val (.long r_18), .second, .val (.long r_19), .second, .unset, .unset, .unset, .unset] [(.int (2 : Int32)), (.int (2 : Int32))]) _
  refine own_st (fun t_ k_ => XS.icmpYes X19.here hx rfl (pc0 := 135) (pc' := 163) rfl (hb hby at_135) rfl (by decide) (by decide) (by decide) k_) ?_
  show own_Go p e below T19 (mkF m 163 #[.val (.int p0), .val (.int x0), .val (.int x1), .val (.int x2), .val (.int (2 : Int32)), .val (.ref b1), .val (.ref b10), .val (.double (own_avg (((0 : Int64) + (x0.toInt64)) + (x1.toInt64)) (2 : Int32))), .second, .val (.long ((x0.toInt64) + (x1.toInt64))), .second, .val (.long r_18), .second, .val (.long r_19), .second, .unset, .unset, .unset, .unset] []) _
  refine own_st (fun t_ k_ => XS.lload X19.here hx rfl (hb hby at_163) rfl k_) ?_
  show own_Go p e below T19 (mkF m 165 #[.val (.int p0), .val (.int x0), .val (.int x1), .val (.int x2), .val (.int (2 : Int32)), .val (.ref b1), .val (.ref b10), .val (.double (own_avg (((0 : Int64) + (x0.toInt64)) + (x1.toInt64)) (2 : Int32))), .second, .val (.long ((x0.toInt64) + (x1.toInt64))), .second, .val (.long r_18), .second, .val (.long r_19), .second, .unset, .unset, .unset, .unset] [(.long ((x0.toInt64) + (x1.toInt64)))]) _
  refine own_st (fun t_ k_ => XS.l2dS X19.here hx rfl (hb hby at_165) rfl rfl k_) ?_
  show own_Go p e below T19 (mkF m 166 #[.val (.int p0), .val (.int x0), .val (.int x1), .val (.int x2), .val (.int (2 : Int32)), .val (.ref b1), .val (.ref b10), .val (.double (own_avg (((0 : Int64) + (x0.toInt64)) + (x1.toInt64)) (2 : Int32))), .second, .val (.long ((x0.toInt64) + (x1.toInt64))), .second, .val (.long r_18), .second, .val (.long r_19), .second, .unset, .unset, .unset, .unset] [(.double (FP.l2d ((x0.toInt64) + (x1.toInt64))))]) _
  refine own_st (fun t_ k_ => XS.iload X19.here hx rfl (hb hby at_166) rfl k_) ?_
  show own_Go p e below T19 (mkF m 168 #[.val (.int p0), .val (.int x0), .val (.int x1), .val (.int x2), .val (.int (2 : Int32)), .val (.ref b1), .val (.ref b10), .val (.double (own_avg (((0 : Int64) + (x0.toInt64)) + (x1.toInt64)) (2 : Int32))), .second, .val (.long ((x0.toInt64) + (x1.toInt64))), .second, .val (.long r_18), .second, .val (.long r_19), .second, .unset, .unset, .unset, .unset] [(.int (2 : Int32)), (.double (FP.l2d ((x0.toInt64) + (x1.toInt64))))]) _
  refine own_st (fun t_ k_ => XS.i2dS X19.here hx rfl (hb hby at_168) rfl rfl k_) ?_
  show own_Go p e below T19 (mkF m 169 #[.val (.int p0), .val (.int x0), .val (.int x1), .val (.int x2), .val (.int (2 : Int32)), .val (.ref b1), .val (.ref b10), .val (.double (own_avg (((0 : Int64) + (x0.toInt64)) + (x1.toInt64)) (2 : Int32))), .second, .val (.long ((x0.toInt64) + (x1.toInt64))), .second, .val (.long r_18), .second, .val (.long r_19), .second, .unset, .unset, .unset, .unset] [(.double (FP.i2d (2 : Int32))), (.double (FP.l2d ((x0.toInt64) + (x1.toInt64))))]) _
  have hf := own_avg_facts (n := (2 : Int32)) hs (by decide) (by decide)
  have hav : FP.ddiv (FP.l2d ((x0.toInt64) + (x1.toInt64))) (FP.i2d (2 : Int32)) = own_avg (((0 : Int64) + (x0.toInt64)) + (x1.toInt64)) (2 : Int32) := by unfold own_avg; exact congrArg (fun z => FP.ddiv (FP.l2d z) (FP.i2d (2 : Int32))) hsame
  refine own_st (fun t_ k_ => XS.ddivS X19.here hx rfl (hb hby at_169) rfl (by rw [hav]; exact hf.1) hav k_) ?_
  show own_Go p e below T19 (mkF m 170 #[.val (.int p0), .val (.int x0), .val (.int x1), .val (.int x2), .val (.int (2 : Int32)), .val (.ref b1), .val (.ref b10), .val (.double (own_avg (((0 : Int64) + (x0.toInt64)) + (x1.toInt64)) (2 : Int32))), .second, .val (.long ((x0.toInt64) + (x1.toInt64))), .second, .val (.long r_18), .second, .val (.long r_19), .second, .unset, .unset, .unset, .unset] [(.double (own_avg (((0 : Int64) + (x0.toInt64)) + (x1.toInt64)) (2 : Int32)))]) _
  have e3 : ((2 : Int32)).toInt = 2 := rfl
  refine own_st (fun t_ k_ => XS.dstore X19.here hx rfl (hb hby at_170) rfl (l' := #[.val (.int p0), .val (.int x0), .val (.int x1), .val (.int x2), .val (.int (2 : Int32)), .val (.ref b1), .val (.ref b10), .val (.double (own_avg (((0 : Int64) + (x0.toInt64)) + (x1.toInt64)) (2 : Int32))), .second, .val (.long ((x0.toInt64) + (x1.toInt64))), .second, .val (.long r_18), .second, .val (.long r_19), .second, .val (.double (own_avg (((0 : Int64) + (x0.toInt64)) + (x1.toInt64)) (2 : Int32))), .second, .unset, .unset]) rfl k_) ?_
  show own_Go p e below T19 (mkF m 172 #[.val (.int p0), .val (.int x0), .val (.int x1), .val (.int x2), .val (.int (2 : Int32)), .val (.ref b1), .val (.ref b10), .val (.double (own_avg (((0 : Int64) + (x0.toInt64)) + (x1.toInt64)) (2 : Int32))), .second, .val (.long ((x0.toInt64) + (x1.toInt64))), .second, .val (.long r_18), .second, .val (.long r_19), .second, .val (.double (own_avg (((0 : Int64) + (x0.toInt64)) + (x1.toInt64)) (2 : Int32))), .second, .unset, .unset] []) _
  refine own_st (fun t_ k_ => XS.dload X19.here hx rfl (hb hby at_172) rfl k_) ?_
  show own_Go p e below T19 (mkF m 174 #[.val (.int p0), .val (.int x0), .val (.int x1), .val (.int x2), .val (.int (2 : Int32)), .val (.ref b1), .val (.ref b10), .val (.double (own_avg (((0 : Int64) + (x0.toInt64)) + (x1.toInt64)) (2 : Int32))), .second, .val (.long ((x0.toInt64) + (x1.toInt64))), .second, .val (.long r_18), .second, .val (.long r_19), .second, .val (.double (own_avg (((0 : Int64) + (x0.toInt64)) + (x1.toInt64)) (2 : Int32))), .second, .unset, .unset] [(.double (own_avg (((0 : Int64) + (x0.toInt64)) + (x1.toInt64)) (2 : Int32)))]) _
  refine own_st (fun t_ k_ => XS.dload X19.here hx rfl (hb hby at_174) rfl k_) ?_
  show own_Go p e below T19 (mkF m 176 #[.val (.int p0), .val (.int x0), .val (.int x1), .val (.int x2), .val (.int (2 : Int32)), .val (.ref b1), .val (.ref b10), .val (.double (own_avg (((0 : Int64) + (x0.toInt64)) + (x1.toInt64)) (2 : Int32))), .second, .val (.long ((x0.toInt64) + (x1.toInt64))), .second, .val (.long r_18), .second, .val (.long r_19), .second, .val (.double (own_avg (((0 : Int64) + (x0.toInt64)) + (x1.toInt64)) (2 : Int32))), .second, .unset, .unset] [(.double (own_avg (((0 : Int64) + (x0.toInt64)) + (x1.toInt64)) (2 : Int32))), (.double (own_avg (((0 : Int64) + (x0.toInt64)) + (x1.toInt64)) (2 : Int32)))]) _
  refine own_st (fun t_ k_ => XS.dcmpS X19.here hx rfl (hb hby at_176) rfl (dcmpV_self hf.1 _) k_) ?_
  show own_Go p e below T19 (mkF m 177 #[.val (.int p0), .val (.int x0), .val (.int x1), .val (.int x2), .val (.int (2 : Int32)), .val (.ref b1), .val (.ref b10), .val (.double (own_avg (((0 : Int64) + (x0.toInt64)) + (x1.toInt64)) (2 : Int32))), .second, .val (.long ((x0.toInt64) + (x1.toInt64))), .second, .val (.long r_18), .second, .val (.long r_19), .second, .val (.double (own_avg (((0 : Int64) + (x0.toInt64)) + (x1.toInt64)) (2 : Int32))), .second, .unset, .unset] [(.int (0 : Int32))]) _
  refine own_st (fun t_ k_ => XS.ifNo X19.here hx rfl (hb hby at_177) rfl (by decide) k_) ?_
  show own_Go p e below T19 (mkF m 180 #[.val (.int p0), .val (.int x0), .val (.int x1), .val (.int x2), .val (.int (2 : Int32)), .val (.ref b1), .val (.ref b10), .val (.double (own_avg (((0 : Int64) + (x0.toInt64)) + (x1.toInt64)) (2 : Int32))), .second, .val (.long ((x0.toInt64) + (x1.toInt64))), .second, .val (.long r_18), .second, .val (.long r_19), .second, .val (.double (own_avg (((0 : Int64) + (x0.toInt64)) + (x1.toInt64)) (2 : Int32))), .second, .unset, .unset] []) _
  refine own_st (fun t_ k_ => XS.iconst X19.here hx rfl (hb hby at_180) k_) ?_
  show own_Go p e below T19 (mkF m 181 #[.val (.int p0), .val (.int x0), .val (.int x1), .val (.int x2), .val (.int (2 : Int32)), .val (.ref b1), .val (.ref b10), .val (.double (own_avg (((0 : Int64) + (x0.toInt64)) + (x1.toInt64)) (2 : Int32))), .second, .val (.long ((x0.toInt64) + (x1.toInt64))), .second, .val (.long r_18), .second, .val (.long r_19), .second, .val (.double (own_avg (((0 : Int64) + (x0.toInt64)) + (x1.toInt64)) (2 : Int32))), .second, .unset, .unset] [(.int (1 : Int32))]) _
  refine own_st (fun t_ k_ => XS.goto X19.here hx rfl (pc0 := 181) (pc' := 185) rfl (hb hby at_181) (by decide) (by decide) k_) ?_
  show own_Go p e below T19 (mkF m 185 #[.val (.int p0), .val (.int x0), .val (.int x1), .val (.int x2), .val (.int (2 : Int32)), .val (.ref b1), .val (.ref b10), .val (.double (own_avg (((0 : Int64) + (x0.toInt64)) + (x1.toInt64)) (2 : Int32))), .second, .val (.long ((x0.toInt64) + (x1.toInt64))), .second, .val (.long r_18), .second, .val (.long r_19), .second, .val (.double (own_avg (((0 : Int64) + (x0.toInt64)) + (x1.toInt64)) (2 : Int32))), .second, .unset, .unset] [(.int (1 : Int32))]) _
  refine own_st (fun t_ k_ => XS.istore X19.here hx rfl (hb hby at_185) rfl (l' := #[.val (.int p0), .val (.int x0), .val (.int x1), .val (.int x2), .val (.int (2 : Int32)), .val (.ref b1), .val (.ref b10), .val (.double (own_avg (((0 : Int64) + (x0.toInt64)) + (x1.toInt64)) (2 : Int32))), .second, .val (.long ((x0.toInt64) + (x1.toInt64))), .second, .val (.long r_18), .second, .val (.long r_19), .second, .val (.double (own_avg (((0 : Int64) + (x0.toInt64)) + (x1.toInt64)) (2 : Int32))), .second, .val (.int (1 : Int32)), .unset]) rfl k_) ?_
  show own_Go p e below T19 (mkF m 187 #[.val (.int p0), .val (.int x0), .val (.int x1), .val (.int x2), .val (.int (2 : Int32)), .val (.ref b1), .val (.ref b10), .val (.double (own_avg (((0 : Int64) + (x0.toInt64)) + (x1.toInt64)) (2 : Int32))), .second, .val (.long ((x0.toInt64) + (x1.toInt64))), .second, .val (.long r_18), .second, .val (.long r_19), .second, .val (.double (own_avg (((0 : Int64) + (x0.toInt64)) + (x1.toInt64)) (2 : Int32))), .second, .val (.int (1 : Int32)), .unset] []) _
  refine own_st (fun t_ k_ => XS.dload X19.here hx rfl (hb hby at_187) rfl k_) ?_
  show own_Go p e below T19 (mkF m 189 #[.val (.int p0), .val (.int x0), .val (.int x1), .val (.int x2), .val (.int (2 : Int32)), .val (.ref b1), .val (.ref b10), .val (.double (own_avg (((0 : Int64) + (x0.toInt64)) + (x1.toInt64)) (2 : Int32))), .second, .val (.long ((x0.toInt64) + (x1.toInt64))), .second, .val (.long r_18), .second, .val (.long r_19), .second, .val (.double (own_avg (((0 : Int64) + (x0.toInt64)) + (x1.toInt64)) (2 : Int32))), .second, .val (.int (1 : Int32)), .unset] [(.double (own_avg (((0 : Int64) + (x0.toInt64)) + (x1.toInt64)) (2 : Int32)))]) _
  refine own_st (fun t_ k_ => XS.lload X19.here hx rfl (hb hby at_189) rfl k_) ?_
  show own_Go p e below T19 (mkF m 191 #[.val (.int p0), .val (.int x0), .val (.int x1), .val (.int x2), .val (.int (2 : Int32)), .val (.ref b1), .val (.ref b10), .val (.double (own_avg (((0 : Int64) + (x0.toInt64)) + (x1.toInt64)) (2 : Int32))), .second, .val (.long ((x0.toInt64) + (x1.toInt64))), .second, .val (.long r_18), .second, .val (.long r_19), .second, .val (.double (own_avg (((0 : Int64) + (x0.toInt64)) + (x1.toInt64)) (2 : Int32))), .second, .val (.int (1 : Int32)), .unset] [(.long r_18), (.double (own_avg (((0 : Int64) + (x0.toInt64)) + (x1.toInt64)) (2 : Int32)))]) _
  refine own_st (fun t_ k_ => XS.l2dS X19.here hx rfl (hb hby at_191) rfl rfl k_) ?_
  show own_Go p e below T19 (mkF m 192 #[.val (.int p0), .val (.int x0), .val (.int x1), .val (.int x2), .val (.int (2 : Int32)), .val (.ref b1), .val (.ref b10), .val (.double (own_avg (((0 : Int64) + (x0.toInt64)) + (x1.toInt64)) (2 : Int32))), .second, .val (.long ((x0.toInt64) + (x1.toInt64))), .second, .val (.long r_18), .second, .val (.long r_19), .second, .val (.double (own_avg (((0 : Int64) + (x0.toInt64)) + (x1.toInt64)) (2 : Int32))), .second, .val (.int (1 : Int32)), .unset] [(.double (FP.l2d r_18)), (.double (own_avg (((0 : Int64) + (x0.toInt64)) + (x1.toInt64)) (2 : Int32)))]) _
  refine own_st (fun t_ k_ => XS.dcmpS X19.here hx rfl (hb hby at_192) rfl rfl k_) ?_
  show own_Go p e below T19 (mkF m 193 #[.val (.int p0), .val (.int x0), .val (.int x1), .val (.int x2), .val (.int (2 : Int32)), .val (.ref b1), .val (.ref b10), .val (.double (own_avg (((0 : Int64) + (x0.toInt64)) + (x1.toInt64)) (2 : Int32))), .second, .val (.long ((x0.toInt64) + (x1.toInt64))), .second, .val (.long r_18), .second, .val (.long r_19), .second, .val (.double (own_avg (((0 : Int64) + (x0.toInt64)) + (x1.toInt64)) (2 : Int32))), .second, .val (.int (1 : Int32)), .unset] [(.int (cmpValue (FP.dcmp (own_avg (((0 : Int64) + (x0.toInt64)) + (x1.toInt64)) (2 : Int32)) (FP.l2d r_18)) .g))]) _
  refine own_st (fun t_ k_ => XS.ifNo X19.here hx rfl (hb hby at_193) rfl ((if0 _ _).trans (flt (hf.2.1 r_18 (by omega) (by rw [e3, s1]; omega))).1) k_) ?_
  show own_Go p e below T19 (mkF m 196 #[.val (.int p0), .val (.int x0), .val (.int x1), .val (.int x2), .val (.int (2 : Int32)), .val (.ref b1), .val (.ref b10), .val (.double (own_avg (((0 : Int64) + (x0.toInt64)) + (x1.toInt64)) (2 : Int32))), .second, .val (.long ((x0.toInt64) + (x1.toInt64))), .second, .val (.long r_18), .second, .val (.long r_19), .second, .val (.double (own_avg (((0 : Int64) + (x0.toInt64)) + (x1.toInt64)) (2 : Int32))), .second, .val (.int (1 : Int32)), .unset] []) _
  refine own_st (fun t_ k_ => XS.lload X19.here hx rfl (hb hby at_196) rfl k_) ?_
  show own_Go p e below T19 (mkF m 198 #[.val (.int p0), .val (.int x0), .val (.int x1), .val (.int x2), .val (.int (2 : Int32)), .val (.ref b1), .val (.ref b10), .val (.double (own_avg (((0 : Int64) + (x0.toInt64)) + (x1.toInt64)) (2 : Int32))), .second, .val (.long ((x0.toInt64) + (x1.toInt64))), .second, .val (.long r_18), .second, .val (.long r_19), .second, .val (.double (own_avg (((0 : Int64) + (x0.toInt64)) + (x1.toInt64)) (2 : Int32))), .second, .val (.int (1 : Int32)), .unset] [(.long r_19)]) _
  refine own_st (fun t_ k_ => XS.l2dS X19.here hx rfl (hb hby at_198) rfl rfl k_) ?_
  show own_Go p e below T19 (mkF m 199 #[.val (.int p0), .val (.int x0), .val (.int x1), .val (.int x2), .val (.int (2 : Int32)), .val (.ref b1), .val (.ref b10), .val (.double (own_avg (((0 : Int64) + (x0.toInt64)) + (x1.toInt64)) (2 : Int32))), .second, .val (.long ((x0.toInt64) + (x1.toInt64))), .second, .val (.long r_18), .second, .val (.long r_19), .second, .val (.double (own_avg (((0 : Int64) + (x0.toInt64)) + (x1.toInt64)) (2 : Int32))), .second, .val (.int (1 : Int32)), .unset] [(.double (FP.l2d r_19))]) _
  refine own_st (fun t_ k_ => XS.dload X19.here hx rfl (hb hby at_199) rfl k_) ?_
  show own_Go p e below T19 (mkF m 201 #[.val (.int p0), .val (.int x0), .val (.int x1), .val (.int x2), .val (.int (2 : Int32)), .val (.ref b1), .val (.ref b10), .val (.double (own_avg (((0 : Int64) + (x0.toInt64)) + (x1.toInt64)) (2 : Int32))), .second, .val (.long ((x0.toInt64) + (x1.toInt64))), .second, .val (.long r_18), .second, .val (.long r_19), .second, .val (.double (own_avg (((0 : Int64) + (x0.toInt64)) + (x1.toInt64)) (2 : Int32))), .second, .val (.int (1 : Int32)), .unset] [(.double (own_avg (((0 : Int64) + (x0.toInt64)) + (x1.toInt64)) (2 : Int32))), (.double (FP.l2d r_19))]) _
  refine own_st (fun t_ k_ => XS.dcmpS X19.here hx rfl (hb hby at_201) rfl rfl k_) ?_
  show own_Go p e below T19 (mkF m 202 #[.val (.int p0), .val (.int x0), .val (.int x1), .val (.int x2), .val (.int (2 : Int32)), .val (.ref b1), .val (.ref b10), .val (.double (own_avg (((0 : Int64) + (x0.toInt64)) + (x1.toInt64)) (2 : Int32))), .second, .val (.long ((x0.toInt64) + (x1.toInt64))), .second, .val (.long r_18), .second, .val (.long r_19), .second, .val (.double (own_avg (((0 : Int64) + (x0.toInt64)) + (x1.toInt64)) (2 : Int32))), .second, .val (.int (1 : Int32)), .unset] [(.int (cmpValue (FP.dcmp (FP.l2d r_19) (own_avg (((0 : Int64) + (x0.toInt64)) + (x1.toInt64)) (2 : Int32))) .g))]) _
  refine own_st (fun t_ k_ => XS.ifNo X19.here hx rfl (hb hby at_202) rfl ((if0 _ _).trans (flt (hf.2.2 r_19 (by omega) (by rw [e3, s1]; omega))).1) k_) ?_
  show own_Go p e below T19 (mkF m 205 #[.val (.int p0), .val (.int x0), .val (.int x1), .val (.int x2), .val (.int (2 : Int32)), .val (.ref b1), .val (.ref b10), .val (.double (own_avg (((0 : Int64) + (x0.toInt64)) + (x1.toInt64)) (2 : Int32))), .second, .val (.long ((x0.toInt64) + (x1.toInt64))), .second, .val (.long r_18), .second, .val (.long r_19), .second, .val (.double (own_avg (((0 : Int64) + (x0.toInt64)) + (x1.toInt64)) (2 : Int32))), .second, .val (.int (1 : Int32)), .unset] []) _
  refine own_st (fun t_ k_ => XS.iconst X19.here hx rfl (hb hby at_205) k_) ?_
  show own_Go p e below T19 (mkF m 206 #[.val (.int p0), .val (.int x0), .val (.int x1), .val (.int x2), .val (.int (2 : Int32)), .val (.ref b1), .val (.ref b10), .val (.double (own_avg (((0 : Int64) + (x0.toInt64)) + (x1.toInt64)) (2 : Int32))), .second, .val (.long ((x0.toInt64) + (x1.toInt64))), .second, .val (.long r_18), .second, .val (.long r_19), .second, .val (.double (own_avg (((0 : Int64) + (x0.toInt64)) + (x1.toInt64)) (2 : Int32))), .second, .val (.int (1 : Int32)), .unset] [(.int (1 : Int32))]) _
  refine own_st (fun t_ k_ => XS.goto X19.here hx rfl (pc0 := 206) (pc' := 210) rfl (hb hby at_206) (by decide) (by decide) k_) ?_
  show own_Go p e below T19 (mkF m 210 #[.val (.int p0), .val (.int x0), .val (.int x1), .val (.int x2), .val (.int (2 : Int32)), .val (.ref b1), .val (.ref b10), .val (.double (own_avg (((0 : Int64) + (x0.toInt64)) + (x1.toInt64)) (2 : Int32))), .second, .val (.long ((x0.toInt64) + (x1.toInt64))), .second, .val (.long r_18), .second, .val (.long r_19), .second, .val (.double (own_avg (((0 : Int64) + (x0.toInt64)) + (x1.toInt64)) (2 : Int32))), .second, .val (.int (1 : Int32)), .unset] [(.int (1 : Int32))]) _
  refine own_st (fun t_ k_ => XS.istore X19.here hx rfl (hb hby at_210) rfl (l' := #[.val (.int p0), .val (.int x0), .val (.int x1), .val (.int x2), .val (.int (2 : Int32)), .val (.ref b1), .val (.ref b10), .val (.double (own_avg (((0 : Int64) + (x0.toInt64)) + (x1.toInt64)) (2 : Int32))), .second, .val (.long ((x0.toInt64) + (x1.toInt64))), .second, .val (.long r_18), .second, .val (.long r_19), .second, .val (.double (own_avg (((0 : Int64) + (x0.toInt64)) + (x1.toInt64)) (2 : Int32))), .second, .val (.int (1 : Int32)), .val (.int (1 : Int32))]) rfl k_) ?_
  show own_Go p e below T19 (mkF m 212 #[.val (.int p0), .val (.int x0), .val (.int x1), .val (.int x2), .val (.int (2 : Int32)), .val (.ref b1), .val (.ref b10), .val (.double (own_avg (((0 : Int64) + (x0.toInt64)) + (x1.toInt64)) (2 : Int32))), .second, .val (.long ((x0.toInt64) + (x1.toInt64))), .second, .val (.long r_18), .second, .val (.long r_19), .second, .val (.double (own_avg (((0 : Int64) + (x0.toInt64)) + (x1.toInt64)) (2 : Int32))), .second, .val (.int (1 : Int32)), .val (.int (1 : Int32))] []) _
  refine own_st (fun t_ k_ => XS.iload X19.here hx rfl (hb hby at_212) rfl k_) ?_
  show own_Go p e below T19 (mkF m 214 #[.val (.int p0), .val (.int x0), .val (.int x1), .val (.int x2), .val (.int (2 : Int32)), .val (.ref b1), .val (.ref b10), .val (.double (own_avg (((0 : Int64) + (x0.toInt64)) + (x1.toInt64)) (2 : Int32))), .second, .val (.long ((x0.toInt64) + (x1.toInt64))), .second, .val (.long r_18), .second, .val (.long r_19), .second, .val (.double (own_avg (((0 : Int64) + (x0.toInt64)) + (x1.toInt64)) (2 : Int32))), .second, .val (.int (1 : Int32)), .val (.int (1 : Int32))] [(.int (1 : Int32))]) _
  refine own_st (fun t_ k_ => XS.ifNo X19.here hx rfl (hb hby at_214) rfl (by decide) k_) ?_
  show own_Go p e below T19 (mkF m 217 #[.val (.int p0), .val (.int x0), .val (.int x1), .val (.int x2), .val (.int (2 : Int32)), .val (.ref b1), .val (.ref b10), .val (.double (own_avg (((0 : Int64) + (x0.toInt64)) + (x1.toInt64)) (2 : Int32))), .second, .val (.long ((x0.toInt64) + (x1.toInt64))), .second, .val (.long r_18), .second, .val (.long r_19), .second, .val (.double (own_avg (((0 : Int64) + (x0.toInt64)) + (x1.toInt64)) (2 : Int32))), .second, .val (.int (1 : Int32)), .val (.int (1 : Int32))] []) _
  refine own_st (fun t_ k_ => XS.iload X19.here hx rfl (hb hby at_217) rfl k_) ?_
  show own_Go p e below T19 (mkF m 219 #[.val (.int p0), .val (.int x0), .val (.int x1), .val (.int x2), .val (.int (2 : Int32)), .val (.ref b1), .val (.ref b10), .val (.double (own_avg (((0 : Int64) + (x0.toInt64)) + (x1.toInt64)) (2 : Int32))), .second, .val (.long ((x0.toInt64) + (x1.toInt64))), .second, .val (.long r_18), .second, .val (.long r_19), .second, .val (.double (own_avg (((0 : Int64) + (x0.toInt64)) + (x1.toInt64)) (2 : Int32))), .second, .val (.int (1 : Int32)), .val (.int (1 : Int32))] [(.int (1 : Int32))]) _
  refine own_st (fun t_ k_ => XS.ifNo X19.here hx rfl (hb hby at_219) rfl (by decide) k_) ?_
  show own_Go p e below T19 (mkF m 222 #[.val (.int p0), .val (.int x0), .val (.int x1), .val (.int x2), .val (.int (2 : Int32)), .val (.ref b1), .val (.ref b10), .val (.double (own_avg (((0 : Int64) + (x0.toInt64)) + (x1.toInt64)) (2 : Int32))), .second, .val (.long ((x0.toInt64) + (x1.toInt64))), .second, .val (.long r_18), .second, .val (.long r_19), .second, .val (.double (own_avg (((0 : Int64) + (x0.toInt64)) + (x1.toInt64)) (2 : Int32))), .second, .val (.int (1 : Int32)), .val (.int (1 : Int32))] []) _
  refine own_st (fun t_ k_ => XS.iconst X19.here hx rfl (hb hby at_222) k_) ?_
  show own_Go p e below T19 (mkF m 223 #[.val (.int p0), .val (.int x0), .val (.int x1), .val (.int x2), .val (.int (2 : Int32)), .val (.ref b1), .val (.ref b10), .val (.double (own_avg (((0 : Int64) + (x0.toInt64)) + (x1.toInt64)) (2 : Int32))), .second, .val (.long ((x0.toInt64) + (x1.toInt64))), .second, .val (.long r_18), .second, .val (.long r_19), .second, .val (.double (own_avg (((0 : Int64) + (x0.toInt64)) + (x1.toInt64)) (2 : Int32))), .second, .val (.int (1 : Int32)), .val (.int (1 : Int32))] [(.int (1 : Int32))]) _
  refine own_st (fun t_ k_ => XS.goto X19.here hx rfl (pc0 := 223) (pc' := 227) rfl (hb hby at_223) (by decide) (by decide) k_) ?_
  show own_Go p e below T19 (mkF m 227 #[.val (.int p0), .val (.int x0), .val (.int x1), .val (.int x2), .val (.int (2 : Int32)), .val (.ref b1), .val (.ref b10), .val (.double (own_avg (((0 : Int64) + (x0.toInt64)) + (x1.toInt64)) (2 : Int32))), .second, .val (.long ((x0.toInt64) + (x1.toInt64))), .second, .val (.long r_18), .second, .val (.long r_19), .second, .val (.double (own_avg (((0 : Int64) + (x0.toInt64)) + (x1.toInt64)) (2 : Int32))), .second, .val (.int (1 : Int32)), .val (.int (1 : Int32))] [(.int (1 : Int32))]) _
  obtain ⟨fs, hr, hrun, hended, hW, hsame⟩ := X19.leave (v := some (.int (1 : Int32))) (fun h => by rw [Bd.returns] at h; cases h)
  refine own_fin (retN X19 hx (t := .boolean) Bd.returns (by simp) (hb hby at_227) hr) ⟨hrun, hended, _, _, rfl, ?_, ⟨_, rfl⟩, hW, hsame.mono (by decide) (by decide)⟩
  show Q_rmLaw2 Z p0 x0 x1 x2 h0 n0 _ T19.heap _
  rw [eH19]
  exact ⟨rfl, N19, K15⟩
theorem ef_rmLaw3 (m : MethodId) (x0 : Int32) (x1 : Int32) (x2 : Int32) (x3 : Int32) : entryFrame m #[(.int x0), (.int x1), (.int x2), (.int x3)] maxLocals = mkF m 0 #[.val (.int x0), .val (.int x1), .val (.int x2), .val (.int x3), .unset, .unset, .unset, .unset, .unset, .unset, .unset, .unset, .unset, .unset, .unset, .unset, .unset, .unset, .unset] [] := by first | (simp [entryFrame, mkF, argsToLocals, Value.category, maxLocals]; done) | rfl
def Q_rmLaw3 (Z : State) (p0 : Int32) (x0 : Int32) (x1 : Int32) (x2 : Int32) (h0 : Heap) (n0 : Nat) (v : Option Value) (h : Heap) (L : List Loc) : Prop := v = some (.int (1 : Int32)) ∧ Fr n0 L ∧ Keep h0 h []
set_option maxRecDepth 65536 in
set_option maxHeartbeats 40000000 in
theorem rmLaw3 (l : Launch) (Z : State) (a0 : Array Value) (hw : ∀ d ∈ tables_1, d.before a0 Z = true) (ws : List Jvm.Cond) (p0 : Int32) (x0 : Int32) (x1 : Int32) (x2 : Int32) (h0 : Heap) (n0 : Nat) (Z0 : n0 ≤ h0.size) (hn : (p0 &&& (3 : Int32) = (3 : Int32))) :
    MetFree l x (head1 (Jvm.Cond.code x code maxLocals ret :: ws) room_1) (fun a U => a = #[(.int p0), (.int x0), (.int x1), (.int x2)] ∧ Z.Warmed39 U.vm ∧ U.heap = h0) (fun _ _ _ _ _ => True) (fun _ U o U' => ∃ v L, o = .returned v ∧ Q_rmLaw3 Z p0 x0 x1 x2 h0 n0 v U'.heap L ∧ FrameEnd U o U' L 16 128) := by
  refine MetFree.of_bodySF (plainFor_of_name pn_0) hisR ?_
  intro p e s m args below meth c s₁ Bd hml0 hP hK
  obtain ⟨rfl, hZ, hh⟩ := hP
  have hx := Bd.exec
  have hby := Bd.bytes
  have hml : c.maxLocals = 19 := hml0
  have hown : s.vm.findClass "com/example/descriptor/descriptor/engine/index/InvertedFieldAverageLengthPinLaw" = some m.cls := findClass_of_methodNamed Bd.named
  have hnm := (name_of_methodNamed Bd.named Bd.method).1
  have X0 : Stand p l e room_1 s m #[(.int p0), (.int x0), (.int x1), (.int x2)] below meth c s₁ [] 0 0 := Stand.of_body Bd
  have e0 : s₁.heap = h0 := by rw [← hh, Bd.state]; rfl
  have N0 := Fr.nil n0
  refine own_enter (ef_rmLaw3 m p0 x0 x1 x2) ?_
  refine own_st (fun t_ k_ => XS.iloadN X0.here hx rfl (hb hby at_0) rfl k_) ?_
  show own_Go p e below s₁ (mkF m 1 #[.val (.int p0), .val (.int x0), .val (.int x1), .val (.int x2), .unset, .unset, .unset, .unset, .unset, .unset, .unset, .unset, .unset, .unset, .unset, .unset, .unset, .unset, .unset] [(.int p0)]) _
  refine own_st (fun t_ k_ => XS.iconst X0.here hx rfl (hb hby at_1) k_) ?_
  show own_Go p e below s₁ (mkF m 2 #[.val (.int p0), .val (.int x0), .val (.int x1), .val (.int x2), .unset, .unset, .unset, .unset, .unset, .unset, .unset, .unset, .unset, .unset, .unset, .unset, .unset, .unset, .unset] [(.int (3 : Int32)), (.int p0)]) _
  refine own_st (fun t_ k_ => XS.iand X0.here hx rfl (hb hby at_2) rfl k_) ?_
  show own_Go p e below s₁ (mkF m 3 #[.val (.int p0), .val (.int x0), .val (.int x1), .val (.int x2), .unset, .unset, .unset, .unset, .unset, .unset, .unset, .unset, .unset, .unset, .unset, .unset, .unset, .unset, .unset] [(.int (p0 &&& (3 : Int32)))]) _
  rw [hn]
  show own_Go p e below s₁ (mkF m 3 #[.val (.int p0), .val (.int x0), .val (.int x1), .val (.int x2), .unset, .unset, .unset, .unset, .unset, .unset, .unset, .unset, .unset, .unset, .unset, .unset, .unset, .unset, .unset] [(.int (3 : Int32))]) _
  refine own_st (fun t_ k_ => XS.istore X0.here hx rfl (hb hby at_3) rfl (l' := #[.val (.int p0), .val (.int x0), .val (.int x1), .val (.int x2), .val (.int (3 : Int32)), .unset, .unset, .unset, .unset, .unset, .unset, .unset, .unset, .unset, .unset, .unset, .unset, .unset, .unset]) rfl k_) ?_
  show own_Go p e below s₁ (mkF m 5 #[.val (.int p0), .val (.int x0), .val (.int x1), .val (.int x2), .val (.int (3 : Int32)), .unset, .unset, .unset, .unset, .unset, .unset, .unset, .unset, .unset, .unset, .unset, .unset, .unset, .unset] []) _
  refine own_st (fun t_ k_ => XS.iload X0.here hx rfl (hb hby at_5) rfl k_) ?_
  show own_Go p e below s₁ (mkF m 7 #[.val (.int p0), .val (.int x0), .val (.int x1), .val (.int x2), .val (.int (3 : Int32)), .unset, .unset, .unset, .unset, .unset, .unset, .unset, .unset, .unset, .unset, .unset, .unset, .unset, .unset] [(.int (3 : Int32))]) _
  refine own_st (fun t_ k_ => XS.iconst X0.here hx rfl (hb hby at_7) k_) ?_
  show own_Go p e below s₁ (mkF m 8 #[.val (.int p0), .val (.int x0), .val (.int x1), .val (.int x2), .val (.int (3 : Int32)), .unset, .unset, .unset, .unset, .unset, .unset, .unset, .unset, .unset, .unset, .unset, .unset, .unset, .unset] [(.int (3 : Int32)), (.int (3 : Int32))]) _
  refine own_st (fun t_ k_ => XS.icmpNo X0.here hx rfl (hb hby at_8) rfl (by decide) k_) ?_
  show own_Go p e below s₁ (mkF m 11 #[.val (.int p0), .val (.int x0), .val (.int x1), .val (.int x2), .val (.int (3 : Int32)), .unset, .unset, .unset, .unset, .unset, .unset, .unset, .unset, .unset, .unset, .unset, .unset, .unset, .unset] []) _
  refine own_st (fun t_ k_ => XS.iconst X0.here hx rfl (hb hby at_11) k_) ?_
  show own_Go p e below s₁ (mkF m 12 #[.val (.int p0), .val (.int x0), .val (.int x1), .val (.int x2), .val (.int (3 : Int32)), .unset, .unset, .unset, .unset, .unset, .unset, .unset, .unset, .unset, .unset, .unset, .unset, .unset, .unset] [(.int (3 : Int32))]) _
  refine own_st (fun t_ k_ => XS.istore X0.here hx rfl (hb hby at_12) rfl (l' := #[.val (.int p0), .val (.int x0), .val (.int x1), .val (.int x2), .val (.int (3 : Int32)), .unset, .unset, .unset, .unset, .unset, .unset, .unset, .unset, .unset, .unset, .unset, .unset, .unset, .unset]) rfl k_) ?_
  show own_Go p e below s₁ (mkF m 14 #[.val (.int p0), .val (.int x0), .val (.int x1), .val (.int x2), .val (.int (3 : Int32)), .unset, .unset, .unset, .unset, .unset, .unset, .unset, .unset, .unset, .unset, .unset, .unset, .unset, .unset] []) _
  refine own_st (fun t_ k_ => XS.iload X0.here hx rfl (hb hby at_14) rfl k_) ?_
  show own_Go p e below s₁ (mkF m 16 #[.val (.int p0), .val (.int x0), .val (.int x1), .val (.int x2), .val (.int (3 : Int32)), .unset, .unset, .unset, .unset, .unset, .unset, .unset, .unset, .unset, .unset, .unset, .unset, .unset, .unset] [(.int (3 : Int32))]) _
  obtain ⟨T1, h1, k1, X1, e1, E1, A1, st1⟩ := newP X0 hx hZ (hw _ (List.mem_of_getElem? (i := 0) rfl)) e0 (g := (mkF m 16 #[.val (.int p0), .val (.int x0), .val (.int x1), .val (.int x2), .val (.int (3 : Int32)), .unset, .unset, .unset, .unset, .unset, .unset, .unset, .unset, .unset, .unset, .unset, .unset, .unset, .unset] [(.int (3 : Int32))])) rfl (hb hby at_16) rfl (by decide) (cap := 3) (by decide) (by decide) (by decide) (by decide)
  obtain ⟨b1, g1⟩ : ∃ z, z = h0.size := ⟨_, rfl⟩
  rw [← g1] at A1 st1
  have G1 : n0 ≤ b1 := Nat.le_trans Z0 (Nat.le_of_eq g1.symm)
  have B1 : h0.size ≤ b1 := Nat.le_trans (Keep.refl h0 []).1 (Nat.le_of_eq g1.symm)
  have K2 : Keep h0 h1 [] := (Keep.refl h0 []).ext E1
  have V1 : Arv Z h1 b1 k1 .int (3 : Int32) [(.int (0 : Int32)), (.int (0 : Int32)), (.int (0 : Int32))] (.int (0 : Int32)) := (Arv.new A1 (by decide)).pad (pad_rep [] (.int (0 : Int32)) 3)
  refine own_st st1 ?_
  show own_Go p e below T1 (mkF m 18 #[.val (.int p0), .val (.int x0), .val (.int x1), .val (.int x2), .val (.int (3 : Int32)), .unset, .unset, .unset, .unset, .unset, .unset, .unset, .unset, .unset, .unset, .unset, .unset, .unset, .unset] [(.ref b1)]) _
  refine own_st (fun t_ k_ => XS.astore X1.here hx rfl (hb hby at_18) rfl rfl (l' := #[.val (.int p0), .val (.int x0), .val (.int x1), .val (.int x2), .val (.int (3 : Int32)), .val (.ref b1), .unset, .unset, .unset, .unset, .unset, .unset, .unset, .unset, .unset, .unset, .unset, .unset, .unset]) rfl k_) ?_
  show own_Go p e below T1 (mkF m 20 #[.val (.int p0), .val (.int x0), .val (.int x1), .val (.int x2), .val (.int (3 : Int32)), .val (.ref b1), .unset, .unset, .unset, .unset, .unset, .unset, .unset, .unset, .unset, .unset, .unset, .unset, .unset] []) _
  refine own_st (fun t_ k_ => XS.iload X1.here hx rfl (hb hby at_20) rfl k_) ?_
  show own_Go p e below T1 (mkF m 22 #[.val (.int p0), .val (.int x0), .val (.int x1), .val (.int x2), .val (.int (3 : Int32)), .val (.ref b1), .unset, .unset, .unset, .unset, .unset, .unset, .unset, .unset, .unset, .unset, .unset, .unset, .unset] [(.int (3 : Int32))]) _
  refine own_st (fun t_ k_ => XS.ifNo X1.here hx rfl (hb hby at_22) rfl (by decide) k_) ?_
  show own_Go p e below T1 (mkF m 25 #[.val (.int p0), .val (.int x0), .val (.int x1), .val (.int x2), .val (.int (3 : Int32)), .val (.ref b1), .unset, .unset, .unset, .unset, .unset, .unset, .unset, .unset, .unset, .unset, .unset, .unset, .unset] []) _
  refine own_st (fun t_ k_ => XS.aload X1.here hx rfl (hb hby at_25) rfl rfl k_) ?_
  show own_Go p e below T1 (mkF m 27 #[.val (.int p0), .val (.int x0), .val (.int x1), .val (.int x2), .val (.int (3 : Int32)), .val (.ref b1), .unset, .unset, .unset, .unset, .unset, .unset, .unset, .unset, .unset, .unset, .unset, .unset, .unset] [(.ref b1)]) _
  refine own_st (fun t_ k_ => XS.iconst X1.here hx rfl (hb hby at_27) k_) ?_
  show own_Go p e below T1 (mkF m 28 #[.val (.int p0), .val (.int x0), .val (.int x1), .val (.int x2), .val (.int (3 : Int32)), .val (.ref b1), .unset, .unset, .unset, .unset, .unset, .unset, .unset, .unset, .unset, .unset, .unset, .unset, .unset] [(.int (0 : Int32)), (.ref b1)]) _
  refine own_st (fun t_ k_ => XS.iloadN X1.here hx rfl (hb hby at_28) rfl k_) ?_
  show own_Go p e below T1 (mkF m 29 #[.val (.int p0), .val (.int x0), .val (.int x1), .val (.int x2), .val (.int (3 : Int32)), .val (.ref b1), .unset, .unset, .unset, .unset, .unset, .unset, .unset, .unset, .unset, .unset, .unset, .unset, .unset] [(.int x0), (.int (0 : Int32)), (.ref b1)]) _
  obtain ⟨cl3, Ar3, q3, Sz3, Nn3, Hh3, Gg3⟩ := id V1
  have hin3 : ¬ ((0 : Int32) < 0 ∨ cl3.slots.size ≤ ((0 : Int32)).toNatClampNeg) := inb_of Sz3 ⟨by decide, by decide⟩
  obtain ⟨T4, h4, X4, e4, W4, st4⟩ := stI X1 hx hZ e1 Ar3 (j := (0 : Int32)) hin3 (g := (mkF m 29 #[.val (.int p0), .val (.int x0), .val (.int x1), .val (.int x2), .val (.int (3 : Int32)), .val (.ref b1), .unset, .unset, .unset, .unset, .unset, .unset, .unset, .unset, .unset, .unset, .unset, .unset, .unset] [(.int x0), (.int (0 : Int32)), (.ref b1)])) rfl rfl (hb hby at_29)
  have V4 : Arv Z h4 b1 k1 .int (3 : Int32) [(.int x0), (.int (0 : Int32)), (.int (0 : Int32))] (.int (0 : Int32)) := Arv.set Ar3 q3 Sz3 Nn3 Hh3 Gg3 rfl W4 0 rfl (Nat.le_of_ble_eq_true rfl)
  have K5 : Keep h0 h4 [] := K2.wr W4 (Or.inr B1)
  have N4 := Fr.snoc X4 N0 G1
  refine own_st st4 ?_
  show own_Go p e below T4 (mkF m 30 #[.val (.int p0), .val (.int x0), .val (.int x1), .val (.int x2), .val (.int (3 : Int32)), .val (.ref b1), .unset, .unset, .unset, .unset, .unset, .unset, .unset, .unset, .unset, .unset, .unset, .unset, .unset] []) _
  refine own_st (fun t_ k_ => XS.iload X4.here hx rfl (hb hby at_30) rfl k_) ?_
  show own_Go p e below T4 (mkF m 32 #[.val (.int p0), .val (.int x0), .val (.int x1), .val (.int x2), .val (.int (3 : Int32)), .val (.ref b1), .unset, .unset, .unset, .unset, .unset, .unset, .unset, .unset, .unset, .unset, .unset, .unset, .unset] [(.int (3 : Int32))]) _
  refine own_st (fun t_ k_ => XS.iconst X4.here hx rfl (hb hby at_32) k_) ?_
  show own_Go p e below T4 (mkF m 33 #[.val (.int p0), .val (.int x0), .val (.int x1), .val (.int x2), .val (.int (3 : Int32)), .val (.ref b1), .unset, .unset, .unset, .unset, .unset, .unset, .unset, .unset, .unset, .unset, .unset, .unset, .unset] [(.int (1 : Int32)), (.int (3 : Int32))]) _
  refine own_st (fun t_ k_ => XS.icmpNo X4.here hx rfl (hb hby at_33) rfl (by decide) k_) ?_
  show own_Go p e below T4 (mkF m 36 #[.val (.int p0), .val (.int x0), .val (.int x1), .val (.int x2), .val (.int (3 : Int32)), .val (.ref b1), .unset, .unset, .unset, .unset, .unset, .unset, .unset, .unset, .unset, .unset, .unset, .unset, .unset] []) _
  refine own_st (fun t_ k_ => XS.aload X4.here hx rfl (hb hby at_36) rfl rfl k_) ?_
  show own_Go p e below T4 (mkF m 38 #[.val (.int p0), .val (.int x0), .val (.int x1), .val (.int x2), .val (.int (3 : Int32)), .val (.ref b1), .unset, .unset, .unset, .unset, .unset, .unset, .unset, .unset, .unset, .unset, .unset, .unset, .unset] [(.ref b1)]) _
  refine own_st (fun t_ k_ => XS.iconst X4.here hx rfl (hb hby at_38) k_) ?_
  show own_Go p e below T4 (mkF m 39 #[.val (.int p0), .val (.int x0), .val (.int x1), .val (.int x2), .val (.int (3 : Int32)), .val (.ref b1), .unset, .unset, .unset, .unset, .unset, .unset, .unset, .unset, .unset, .unset, .unset, .unset, .unset] [(.int (1 : Int32)), (.ref b1)]) _
  refine own_st (fun t_ k_ => XS.iloadN X4.here hx rfl (hb hby at_39) rfl k_) ?_
  show own_Go p e below T4 (mkF m 40 #[.val (.int p0), .val (.int x0), .val (.int x1), .val (.int x2), .val (.int (3 : Int32)), .val (.ref b1), .unset, .unset, .unset, .unset, .unset, .unset, .unset, .unset, .unset, .unset, .unset, .unset, .unset] [(.int x1), (.int (1 : Int32)), (.ref b1)]) _
  obtain ⟨cl6, Ar6, q6, Sz6, Nn6, Hh6, Gg6⟩ := id V4
  have hin6 : ¬ ((1 : Int32) < 0 ∨ cl6.slots.size ≤ ((1 : Int32)).toNatClampNeg) := inb_of Sz6 ⟨by decide, by decide⟩
  obtain ⟨T7, h7, X7, e7, W7, st7⟩ := stI X4 hx hZ e4 Ar6 (j := (1 : Int32)) hin6 (g := (mkF m 40 #[.val (.int p0), .val (.int x0), .val (.int x1), .val (.int x2), .val (.int (3 : Int32)), .val (.ref b1), .unset, .unset, .unset, .unset, .unset, .unset, .unset, .unset, .unset, .unset, .unset, .unset, .unset] [(.int x1), (.int (1 : Int32)), (.ref b1)])) rfl rfl (hb hby at_40)
  have V7 : Arv Z h7 b1 k1 .int (3 : Int32) [(.int x0), (.int x1), (.int (0 : Int32))] (.int (0 : Int32)) := Arv.set Ar6 q6 Sz6 Nn6 Hh6 Gg6 rfl W7 1 rfl (Nat.le_of_ble_eq_true rfl)
  have K8 : Keep h0 h7 [] := K5.wr W7 (Or.inr B1)
  have N7 := Fr.snoc X7 N4 G1
  refine own_st st7 ?_
  show own_Go p e below T7 (mkF m 41 #[.val (.int p0), .val (.int x0), .val (.int x1), .val (.int x2), .val (.int (3 : Int32)), .val (.ref b1), .unset, .unset, .unset, .unset, .unset, .unset, .unset, .unset, .unset, .unset, .unset, .unset, .unset] []) _
  refine own_st (fun t_ k_ => XS.iload X7.here hx rfl (hb hby at_41) rfl k_) ?_
  show own_Go p e below T7 (mkF m 43 #[.val (.int p0), .val (.int x0), .val (.int x1), .val (.int x2), .val (.int (3 : Int32)), .val (.ref b1), .unset, .unset, .unset, .unset, .unset, .unset, .unset, .unset, .unset, .unset, .unset, .unset, .unset] [(.int (3 : Int32))]) _
  refine own_st (fun t_ k_ => XS.iconst X7.here hx rfl (hb hby at_43) k_) ?_
  show own_Go p e below T7 (mkF m 44 #[.val (.int p0), .val (.int x0), .val (.int x1), .val (.int x2), .val (.int (3 : Int32)), .val (.ref b1), .unset, .unset, .unset, .unset, .unset, .unset, .unset, .unset, .unset, .unset, .unset, .unset, .unset] [(.int (2 : Int32)), (.int (3 : Int32))]) _
  refine own_st (fun t_ k_ => XS.icmpNo X7.here hx rfl (hb hby at_44) rfl (by decide) k_) ?_
  show own_Go p e below T7 (mkF m 47 #[.val (.int p0), .val (.int x0), .val (.int x1), .val (.int x2), .val (.int (3 : Int32)), .val (.ref b1), .unset, .unset, .unset, .unset, .unset, .unset, .unset, .unset, .unset, .unset, .unset, .unset, .unset] []) _
  refine own_st (fun t_ k_ => XS.aload X7.here hx rfl (hb hby at_47) rfl rfl k_) ?_
  show own_Go p e below T7 (mkF m 49 #[.val (.int p0), .val (.int x0), .val (.int x1), .val (.int x2), .val (.int (3 : Int32)), .val (.ref b1), .unset, .unset, .unset, .unset, .unset, .unset, .unset, .unset, .unset, .unset, .unset, .unset, .unset] [(.ref b1)]) _
  refine own_st (fun t_ k_ => XS.iconst X7.here hx rfl (hb hby at_49) k_) ?_
  show own_Go p e below T7 (mkF m 50 #[.val (.int p0), .val (.int x0), .val (.int x1), .val (.int x2), .val (.int (3 : Int32)), .val (.ref b1), .unset, .unset, .unset, .unset, .unset, .unset, .unset, .unset, .unset, .unset, .unset, .unset, .unset] [(.int (2 : Int32)), (.ref b1)]) _
  refine own_st (fun t_ k_ => XS.iloadN X7.here hx rfl (hb hby at_50) rfl k_) ?_
  show own_Go p e below T7 (mkF m 51 #[.val (.int p0), .val (.int x0), .val (.int x1), .val (.int x2), .val (.int (3 : Int32)), .val (.ref b1), .unset, .unset, .unset, .unset, .unset, .unset, .unset, .unset, .unset, .unset, .unset, .unset, .unset] [(.int x2), (.int (2 : Int32)), (.ref b1)]) _
  obtain ⟨cl9, Ar9, q9, Sz9, Nn9, Hh9, Gg9⟩ := id V7
  have hin9 : ¬ ((2 : Int32) < 0 ∨ cl9.slots.size ≤ ((2 : Int32)).toNatClampNeg) := inb_of Sz9 ⟨by decide, by decide⟩
  obtain ⟨T10, h10, X10, e10, W10, st10⟩ := stI X7 hx hZ e7 Ar9 (j := (2 : Int32)) hin9 (g := (mkF m 51 #[.val (.int p0), .val (.int x0), .val (.int x1), .val (.int x2), .val (.int (3 : Int32)), .val (.ref b1), .unset, .unset, .unset, .unset, .unset, .unset, .unset, .unset, .unset, .unset, .unset, .unset, .unset] [(.int x2), (.int (2 : Int32)), (.ref b1)])) rfl rfl (hb hby at_51)
  have V10 : Arv Z h10 b1 k1 .int (3 : Int32) [(.int x0), (.int x1), (.int x2)] (.int (0 : Int32)) := Arv.set Ar9 q9 Sz9 Nn9 Hh9 Gg9 rfl W10 2 rfl (Nat.le_of_ble_eq_true rfl)
  have K11 : Keep h0 h10 [] := K8.wr W10 (Or.inr B1)
  have N10 := Fr.snoc X10 N7 G1
  refine own_st st10 ?_
  show own_Go p e below T10 (mkF m 52 #[.val (.int p0), .val (.int x0), .val (.int x1), .val (.int x2), .val (.int (3 : Int32)), .val (.ref b1), .unset, .unset, .unset, .unset, .unset, .unset, .unset, .unset, .unset, .unset, .unset, .unset, .unset] []) _
  have f12 := (Nat.le_trans (Nat.le_trans (Nat.le_trans (Nat.le_trans Z0 E1.1) (Keep.of_wr W4).1) (Keep.of_wr W7).1) (Keep.of_wr W10).1)
  obtain ⟨T13, h13, X13, e13, E13, A13, D13, -, st13⟩ := newO X10 hx hZ hown (hw _ (List.mem_of_getElem? (i := 1) rfl)) (hw _ (List.mem_of_getElem? (i := 2) rfl)) (hw _ (List.mem_of_getElem? (i := 3) rfl)) e10 (g := (mkF m 52 #[.val (.int p0), .val (.int x0), .val (.int x1), .val (.int x2), .val (.int (3 : Int32)), .val (.ref b1), .unset, .unset, .unset, .unset, .unset, .unset, .unset, .unset, .unset, .unset, .unset, .unset, .unset] [])) rfl (hb hby at_52) (by decide) (by decide)
  obtain ⟨b13, g13⟩ : ∃ z, z = h10.size := ⟨_, rfl⟩
  rw [← g13] at A13 D13 st13
  have G13 : n0 ≤ b13 := Nat.le_trans f12 (Nat.le_of_eq g13.symm)
  have B13 : h0.size ≤ b13 := Nat.le_trans K11.1 (Nat.le_of_eq g13.symm)
  have K14 : Keep h0 h13 [] := K11.ext E13
  have D13_lengths : Fld Z h13 b13 "com/example/descriptor/descriptor/engine/index/InvertedField" "lengths" "[I" .null := D13 (Or.inr (hw _ (List.mem_of_getElem? (i := 11) rfl))) (ty := (.array .int)) (by decide)
  have D13_postings : Fld Z h13 b13 "com/example/descriptor/descriptor/engine/index/InvertedField" "postings" "Ljava/util/Map;" .null := D13 (Or.inr (hw _ (List.mem_of_getElem? (i := 13) rfl))) (ty := (.object "java/util/Map")) (by decide)
  have D13_totalLength : Fld Z h13 b13 "com/example/descriptor/descriptor/engine/index/InvertedField" "totalLength" "J" (.long (0 : Int64)) := D13 (Or.inr (hw _ (List.mem_of_getElem? (i := 15) rfl))) (ty := .long) (by decide)
  refine own_st st13 ?_
  show own_Go p e below T13 (mkF m 55 #[.val (.int p0), .val (.int x0), .val (.int x1), .val (.int x2), .val (.int (3 : Int32)), .val (.ref b1), .unset, .unset, .unset, .unset, .unset, .unset, .unset, .unset, .unset, .unset, .unset, .unset, .unset] [(.ref b13)]) _
  refine own_st (fun t_ k_ => XS.dup X13.here hx rfl (hb hby at_55) rfl rfl k_) ?_
  show own_Go p e below T13 (mkF m 56 #[.val (.int p0), .val (.int x0), .val (.int x1), .val (.int x2), .val (.int (3 : Int32)), .val (.ref b1), .unset, .unset, .unset, .unset, .unset, .unset, .unset, .unset, .unset, .unset, .unset, .unset, .unset] [(.ref b13), (.ref b13)]) _
  refine own_st (fun t_ k_ => XS.aload X13.here hx rfl (hb hby at_56) rfl rfl k_) ?_
  show own_Go p e below T13 (mkF m 58 #[.val (.int p0), .val (.int x0), .val (.int x1), .val (.int x2), .val (.int (3 : Int32)), .val (.ref b1), .unset, .unset, .unset, .unset, .unset, .unset, .unset, .unset, .unset, .unset, .unset, .unset, .unset] [(.ref b1), (.ref b13), (.ref b13)]) _
  refine own_st (fun t_ k_ => XS.aconstNull X13.here hx rfl (hb hby at_58) k_) ?_
  show own_Go p e below T13 (mkF m 59 #[.val (.int p0), .val (.int x0), .val (.int x1), .val (.int x2), .val (.int (3 : Int32)), .val (.ref b1), .unset, .unset, .unset, .unset, .unset, .unset, .unset, .unset, .unset, .unset, .unset, .unset, .unset] [.null, (.ref b1), (.ref b13), (.ref b13)]) _
  have f15 := (Nat.le_trans f12 E13.1)
  have f16 := (V10.ext E13)
  obtain ⟨_, _, ⟨T17, L17, k17, n17⟩, -, X17, ⟨Lc17, hQ17, l17, y17, z17⟩, st17⟩ := X13.specialBack hx (y := (⟨"com/example/descriptor/descriptor/engine/index/InvertedField", "<init>", "([ILjava/util/Map;)V"⟩ : MethodName)) rfl hown (mvT hZ (hw _ (List.mem_of_getElem? (i := 4) rfl))) (mvT hZ (hw _ (List.mem_of_getElem? (i := 5) rfl))) (mvT hZ (hw _ (List.mem_of_getElem? (i := 6) rfl))) (by decide) (backOf (W := 1) (rmIn3 l Z a0 hw [] b13 b1 k1 _ _ _ .null .null ((.long (0 : Int64))) h13 n0 f15 A13 D13_lengths D13_postings D13_totalLength G13 f16) hZ (hw _ (List.mem_of_getElem? (i := 6) rfl)) (hw _ (List.mem_of_getElem? (i := 3) rfl)) (by decide) (by decide)) (g := (mkF m 59 #[.val (.int p0), .val (.int x0), .val (.int x1), .val (.int x2), .val (.int (3 : Int32)), .val (.ref b1), .unset, .unset, .unset, .unset, .unset, .unset, .unset, .unset, .unset, .unset, .unset, .unset, .unset] [.null, (.ref b1), (.ref b13), (.ref b13)])) rfl (by rw [hml]; rfl) (Steps.refl _) (a := b13) (argsL := [(.ref b1), .null]) (rest := [(.ref b13)]) (lenOf pd___ILjava_util_Map__V rfl) rfl (by show 2 * 0 + _ ≤ _; exact Nat.le_of_eq rfl) (hb hby at_59) (fun _ _ => ⟨rfl, e13, (by decide : 2 + 0 ≤ _), (by decide : 6 + 0 ≤ _)⟩)
  dsimp only [Pt.U, Pt.locs, Pt.cells, Pt.slots] at X17 l17 y17 z17 st17 hQ17
  subst l17 y17 z17
  obtain ⟨rfl, Nq17, Kq17, q17_0, q17_1, q17_2, q17_3⟩ := hQ17
  have N17 := Fr.app N10 Nq17
  have K18 : Keep h0 T17.heap [] := K14.trans Kq17 (allS (Or.inr B13) all0)
  refine own_tr st17 ?_
  show own_Go p e below T17 (mkF m 62 #[.val (.int p0), .val (.int x0), .val (.int x1), .val (.int x2), .val (.int (3 : Int32)), .val (.ref b1), .unset, .unset, .unset, .unset, .unset, .unset, .unset, .unset, .unset, .unset, .unset, .unset, .unset] [(.ref b13)]) _
  refine own_st (fun t_ k_ => XS.astore X17.here hx rfl (hb hby at_62) rfl rfl (l' := #[.val (.int p0), .val (.int x0), .val (.int x1), .val (.int x2), .val (.int (3 : Int32)), .val (.ref b1), .val (.ref b13), .unset, .unset, .unset, .unset, .unset, .unset, .unset, .unset, .unset, .unset, .unset, .unset]) rfl k_) ?_
  show own_Go p e below T17 (mkF m 64 #[.val (.int p0), .val (.int x0), .val (.int x1), .val (.int x2), .val (.int (3 : Int32)), .val (.ref b1), .val (.ref b13), .unset, .unset, .unset, .unset, .unset, .unset, .unset, .unset, .unset, .unset, .unset, .unset] []) _
  refine own_st (fun t_ k_ => XS.aload X17.here hx rfl (hb hby at_64) rfl rfl k_) ?_
  show own_Go p e below T17 (mkF m 66 #[.val (.int p0), .val (.int x0), .val (.int x1), .val (.int x2), .val (.int (3 : Int32)), .val (.ref b1), .val (.ref b13), .unset, .unset, .unset, .unset, .unset, .unset, .unset, .unset, .unset, .unset, .unset, .unset] [(.ref b13)]) _
  have e_x0 : x0.toInt64.toInt = x0.toInt := Int32.toInt_toInt64 x0
  have r_x0 := rng32 x0
  have e_x1 : x1.toInt64.toInt = x1.toInt := Int32.toInt_toInt64 x1
  have r_x1 := rng32 x1
  have e_x2 : x2.toInt64.toInt = x2.toInt := Int32.toInt_toInt64 x2
  have r_x2 := rng32 x2
  have s0 : ((0 : Int64) + (x0.toInt64)).toInt = x0.toInt := by
    have h := c_ladd (0 : Int64) x0.toInt64
    have rr := rng64 ((0 : Int64) + x0.toInt64)
    have z0 : (0 : Int64).toInt = 0 := rfl
    omega
  have s1 : (((0 : Int64) + (x0.toInt64)) + (x1.toInt64)).toInt = x0.toInt + x1.toInt := by
    have h := c_ladd ((0 : Int64) + (x0.toInt64)) x1.toInt64
    have rr := rng64 (((0 : Int64) + (x0.toInt64)) + x1.toInt64)
    have z0 : (0 : Int64).toInt = 0 := rfl
    omega
  have s2 : ((((0 : Int64) + (x0.toInt64)) + (x1.toInt64)) + (x2.toInt64)).toInt = x0.toInt + x1.toInt + x2.toInt := by
    have h := c_ladd (((0 : Int64) + (x0.toInt64)) + (x1.toInt64)) x2.toInt64
    have rr := rng64 ((((0 : Int64) + (x0.toInt64)) + (x1.toInt64)) + x2.toInt64)
    have z0 : (0 : Int64).toInt = 0 := rfl
    omega
  have hsame : (((x0.toInt64) + (x1.toInt64)) + (x2.toInt64)) = ((((0 : Int64) + (x0.toInt64)) + (x1.toInt64)) + (x2.toInt64)) := by
    rw [Int64.zero_add]
  have hs : ((((0 : Int64) + (x0.toInt64)) + (x1.toInt64)) + (x2.toInt64)).toInt.natAbs ≤ 2 ^ 53 := by rw [s2]; omega
  have f19 := (Nat.le_trans f15 Kq17.1)
  obtain ⟨cq20, kq20, qa20, qb20, qc20⟩ := isOf hZ rfl q17_0
  obtain ⟨_, _, ⟨T20, L20, k20, n20⟩, -, X20, ⟨Lc20, hQ20, l20, y20, z20⟩, st20⟩ := X17.virtualBack hx (y := (⟨"com/example/descriptor/descriptor/engine/index/InvertedField", "averageLength", "()D"⟩ : MethodName)) (z := (⟨"com/example/descriptor/descriptor/engine/index/InvertedField", "averageLength", "()D"⟩ : MethodName)) hown (mvT hZ (hw _ (List.mem_of_getElem? (i := 16) rfl))) (mvT hZ (hw _ (List.mem_of_getElem? (i := 17) rfl))) (notFace_of_selects (args := #[]) (mvT hZ (hw _ (List.mem_of_getElem? (i := 19) rfl)))) (mvT hZ (hw _ (List.mem_of_getElem? (i := 19) rfl))) (mvT hZ (hw _ (List.mem_of_getElem? (i := 18) rfl))) (by decide) (backOf (W := 0) (rmAv3 l Z a0 hw [] b13 b1 k1 _ _ _ (((((0 : Int64) + (x0.toInt64)) + (x1.toInt64)) + (x2.toInt64))) T17.heap n0 f19 q17_1 q17_2 q17_3 hs) hZ (hw _ (List.mem_of_getElem? (i := 20) rfl)) (hw _ (List.mem_of_getElem? (i := 3) rfl)) (by decide) (by decide)) qa20 qc20 (g := (mkF m 66 #[.val (.int p0), .val (.int x0), .val (.int x1), .val (.int x2), .val (.int (3 : Int32)), .val (.ref b1), .val (.ref b13), .unset, .unset, .unset, .unset, .unset, .unset, .unset, .unset, .unset, .unset, .unset, .unset] [(.ref b13)])) rfl (by rw [hml]; rfl) (Steps.refl _) (argsL := []) (rest := []) (lenOf pd___D rfl) rfl (by show 2 * 0 + _ ≤ _; exact Nat.le_of_eq rfl) (hb hby at_66) (fun _ _ => ⟨rfl, rfl, (by decide : 2 + 0 ≤ _), (by decide : 6 + 0 ≤ _)⟩)
  dsimp only [Pt.U, Pt.locs, Pt.cells, Pt.slots] at X20 l20 y20 z20 st20 hQ20
  subst l20 y20 z20
  obtain ⟨rfl, Nq20, eH20⟩ := hQ20
  have N20 := Fr.app N17 Nq20
  refine own_tr st20 ?_
  show own_Go p e below T20 (mkF m 69 #[.val (.int p0), .val (.int x0), .val (.int x1), .val (.int x2), .val (.int (3 : Int32)), .val (.ref b1), .val (.ref b13), .unset, .unset, .unset, .unset, .unset, .unset, .unset, .unset, .unset, .unset, .unset, .unset] [(.double (own_avg ((((0 : Int64) + (x0.toInt64)) + (x1.toInt64)) + (x2.toInt64)) (3 : Int32)))]) _
  refine own_st (fun t_ k_ => XS.dstore X20.here hx rfl (hb hby at_69) rfl (l' := #[.val (.int p0), .val (.int x0), .val (.int x1), .val (.int x2), .val (.int (3 : Int32)), .val (.ref b1), .val (.ref b13), .val (.double (own_avg ((((0 : Int64) + (x0.toInt64)) + (x1.toInt64)) + (x2.toInt64)) (3 : Int32))), .second, .unset, .unset, .unset, .unset, .unset, .unset, .unset, .unset, .unset, .unset]) rfl k_) ?_
  show own_Go p e below T20 (mkF m 71 #[.val (.int p0), .val (.int x0), .val (.int x1), .val (.int x2), .val (.int (3 : Int32)), .val (.ref b1), .val (.ref b13), .val (.double (own_avg ((((0 : Int64) + (x0.toInt64)) + (x1.toInt64)) + (x2.toInt64)) (3 : Int32))), .second, .unset, .unset, .unset, .unset, .unset, .unset, .unset, .unset, .unset, .unset] []) _
  refine own_st (fun t_ k_ => XS.iload X20.here hx rfl (hb hby at_71) rfl k_) ?_
  show own_Go p e below T20 (mkF m 73 #[.val (.int p0), .val (.int x0), .val (.int x1), .val (.int x2), .val (.int (3 : Int32)), .val (.ref b1), .val (.ref b13), .val (.double (own_avg ((((0 : Int64) + (x0.toInt64)) + (x1.toInt64)) + (x2.toInt64)) (3 : Int32))), .second, .unset, .unset, .unset, .unset, .unset, .unset, .unset, .unset, .unset, .unset] [(.int (3 : Int32))]) _
  refine own_st (fun t_ k_ => XS.ifYes X20.here hx rfl (pc0 := 73) (pc' := 89) rfl (hb hby at_73) rfl (by decide) (by decide) (by decide) k_) ?_
  show own_Go p e below T20 (mkF m 89 #[.val (.int p0), .val (.int x0), .val (.int x1), .val (.int x2), .val (.int (3 : Int32)), .val (.ref b1), .val (.ref b13), .val (.double (own_avg ((((0 : Int64) + (x0.toInt64)) + (x1.toInt64)) + (x2.toInt64)) (3 : Int32))), .second, .unset, .unset, .unset, .unset, .unset, .unset, .unset, .unset, .unset, .unset] []) _
  refine own_st (fun t_ k_ => XS.iloadN X20.here hx rfl (hb hby at_89) rfl k_) ?_
  show own_Go p e below T20 (mkF m 90 #[.val (.int p0), .val (.int x0), .val (.int x1), .val (.int x2), .val (.int (3 : Int32)), .val (.ref b1), .val (.ref b13), .val (.double (own_avg ((((0 : Int64) + (x0.toInt64)) + (x1.toInt64)) + (x2.toInt64)) (3 : Int32))), .second, .unset, .unset, .unset, .unset, .unset, .unset, .unset, .unset, .unset, .unset] [(.int x0)]) _
  refine own_st (fun t_ k_ => XS.i2l X20.here hx rfl (hb hby at_90) rfl k_) ?_
  show own_Go p e below T20 (mkF m 91 #[.val (.int p0), .val (.int x0), .val (.int x1), .val (.int x2), .val (.int (3 : Int32)), .val (.ref b1), .val (.ref b13), .val (.double (own_avg ((((0 : Int64) + (x0.toInt64)) + (x1.toInt64)) + (x2.toInt64)) (3 : Int32))), .second, .unset, .unset, .unset, .unset, .unset, .unset, .unset, .unset, .unset, .unset] [(.long (x0.toInt64))]) _
  refine own_st (fun t_ k_ => XS.lstore X20.here hx rfl (hb hby at_91) rfl (l' := #[.val (.int p0), .val (.int x0), .val (.int x1), .val (.int x2), .val (.int (3 : Int32)), .val (.ref b1), .val (.ref b13), .val (.double (own_avg ((((0 : Int64) + (x0.toInt64)) + (x1.toInt64)) + (x2.toInt64)) (3 : Int32))), .second, .val (.long (x0.toInt64)), .second, .unset, .unset, .unset, .unset, .unset, .unset, .unset, .unset]) rfl k_) ?_
  show own_Go p e below T20 (mkF m 93 #[.val (.int p0), .val (.int x0), .val (.int x1), .val (.int x2), .val (.int (3 : Int32)), .val (.ref b1), .val (.ref b13), .val (.double (own_avg ((((0 : Int64) + (x0.toInt64)) + (x1.toInt64)) + (x2.toInt64)) (3 : Int32))), .second, .val (.long (x0.toInt64)), .second, .unset, .unset, .unset, .unset, .unset, .unset, .unset, .unset] []) _
  refine own_st (fun t_ k_ => XS.iloadN X20.here hx rfl (hb hby at_93) rfl k_) ?_
  show own_Go p e below T20 (mkF m 94 #[.val (.int p0), .val (.int x0), .val (.int x1), .val (.int x2), .val (.int (3 : Int32)), .val (.ref b1), .val (.ref b13), .val (.double (own_avg ((((0 : Int64) + (x0.toInt64)) + (x1.toInt64)) + (x2.toInt64)) (3 : Int32))), .second, .val (.long (x0.toInt64)), .second, .unset, .unset, .unset, .unset, .unset, .unset, .unset, .unset] [(.int x0)]) _
  refine own_st (fun t_ k_ => XS.i2l X20.here hx rfl (hb hby at_94) rfl k_) ?_
  show own_Go p e below T20 (mkF m 95 #[.val (.int p0), .val (.int x0), .val (.int x1), .val (.int x2), .val (.int (3 : Int32)), .val (.ref b1), .val (.ref b13), .val (.double (own_avg ((((0 : Int64) + (x0.toInt64)) + (x1.toInt64)) + (x2.toInt64)) (3 : Int32))), .second, .val (.long (x0.toInt64)), .second, .unset, .unset, .unset, .unset, .unset, .unset, .unset, .unset] [(.long (x0.toInt64))]) _
  refine own_st (fun t_ k_ => XS.lstore X20.here hx rfl (hb hby at_95) rfl (l' := #[.val (.int p0), .val (.int x0), .val (.int x1), .val (.int x2), .val (.int (3 : Int32)), .val (.ref b1), .val (.ref b13), .val (.double (own_avg ((((0 : Int64) + (x0.toInt64)) + (x1.toInt64)) + (x2.toInt64)) (3 : Int32))), .second, .val (.long (x0.toInt64)), .second, .val (.long (x0.toInt64)), .second, .unset, .unset, .unset, .unset, .unset, .unset]) rfl k_) ?_
  show own_Go p e below T20 (mkF m 97 #[.val (.int p0), .val (.int x0), .val (.int x1), .val (.int x2), .val (.int (3 : Int32)), .val (.ref b1), .val (.ref b13), .val (.double (own_avg ((((0 : Int64) + (x0.toInt64)) + (x1.toInt64)) + (x2.toInt64)) (3 : Int32))), .second, .val (.long (x0.toInt64)), .second, .val (.long (x0.toInt64)), .second, .unset, .unset, .unset, .unset, .unset, .unset] []) _
  refine own_st (fun t_ k_ => XS.iloadN X20.here hx rfl (hb hby at_97) rfl k_) ?_
  show own_Go p e below T20 (mkF m 98 #[.val (.int p0), .val (.int x0), .val (.int x1), .val (.int x2), .val (.int (3 : Int32)), .val (.ref b1), .val (.ref b13), .val (.double (own_avg ((((0 : Int64) + (x0.toInt64)) + (x1.toInt64)) + (x2.toInt64)) (3 : Int32))), .second, .val (.long (x0.toInt64)), .second, .val (.long (x0.toInt64)), .second, .unset, .unset, .unset, .unset, .unset, .unset] [(.int x0)]) _
  refine own_st (fun t_ k_ => XS.i2l X20.here hx rfl (hb hby at_98) rfl k_) ?_
  show own_Go p e below T20 (mkF m 99 #[.val (.int p0), .val (.int x0), .val (.int x1), .val (.int x2), .val (.int (3 : Int32)), .val (.ref b1), .val (.ref b13), .val (.double (own_avg ((((0 : Int64) + (x0.toInt64)) + (x1.toInt64)) + (x2.toInt64)) (3 : Int32))), .second, .val (.long (x0.toInt64)), .second, .val (.long (x0.toInt64)), .second, .unset, .unset, .unset, .unset, .unset, .unset] [(.long (x0.toInt64))]) _
  refine own_st (fun t_ k_ => XS.lstore X20.here hx rfl (hb hby at_99) rfl (l' := #[.val (.int p0), .val (.int x0), .val (.int x1), .val (.int x2), .val (.int (3 : Int32)), .val (.ref b1), .val (.ref b13), .val (.double (own_avg ((((0 : Int64) + (x0.toInt64)) + (x1.toInt64)) + (x2.toInt64)) (3 : Int32))), .second, .val (.long (x0.toInt64)), .second, .val (.long (x0.toInt64)), .second, .val (.long (x0.toInt64)), .second, .unset, .unset, .unset, .unset]) rfl k_) ?_
  show own_Go p e below T20 (mkF m 101 #[.val (.int p0), .val (.int x0), .val (.int x1), .val (.int x2), .val (.int (3 : Int32)), .val (.ref b1), .val (.ref b13), .val (.double (own_avg ((((0 : Int64) + (x0.toInt64)) + (x1.toInt64)) + (x2.toInt64)) (3 : Int32))), .second, .val (.long (x0.toInt64)), .second, .val (.long (x0.toInt64)), .second, .val (.long (x0.toInt64)), .second, .unset, .unset, .unset, .unset] []) _
  refine own_st (fun t_ k_ => XS.iload X20.here hx rfl (hb hby at_101) rfl k_) ?_
  show own_Go p e below T20 (mkF m 103 #[.val (.int p0), .val (.int x0), .val (.int x1), .val (.int x2), .val (.int (3 : Int32)), .val (.ref b1), .val (.ref b13), .val (.double (own_avg ((((0 : Int64) + (x0.toInt64)) + (x1.toInt64)) + (x2.toInt64)) (3 : Int32))), .second, .val (.long (x0.toInt64)), .second, .val (.long (x0.toInt64)), .second, .val (.long (x0.toInt64)), .second, .unset, .unset, .unset, .unset] [(.int (3 : Int32))]) _
  refine own_st (fun t_ k_ => XS.iconst X20.here hx rfl (hb hby at_103) k_) ?_
  show own_Go p e below T20 (mkF m 104 #[.val (.int p0), .val (.int x0), .val (.int x1), .val (.int x2), .val (.int (3 : Int32)), .val (.ref b1), .val (.ref b13), .val (.double (own_avg ((((0 : Int64) + (x0.toInt64)) + (x1.toInt64)) + (x2.toInt64)) (3 : Int32))), .second, .val (.long (x0.toInt64)), .second, .val (.long (x0.toInt64)), .second, .val (.long (x0.toInt64)), .second, .unset, .unset, .unset, .unset] [(.int (1 : Int32)), (.int (3 : Int32))]) _
  refine own_st (fun t_ k_ => XS.icmpNo X20.here hx rfl (hb hby at_104) rfl (by decide) k_) ?_
  show own_Go p e below T20 (mkF m 107 #[.val (.int p0), .val (.int x0), .val (.int x1), .val (.int x2), .val (.int (3 : Int32)), .val (.ref b1), .val (.ref b13), .val (.double (own_avg ((((0 : Int64) + (x0.toInt64)) + (x1.toInt64)) + (x2.toInt64)) (3 : Int32))), .second, .val (.long (x0.toInt64)), .second, .val (.long (x0.toInt64)), .second, .val (.long (x0.toInt64)), .second, .unset, .unset, .unset, .unset] []) _
  refine own_st (fun t_ k_ => XS.lload X20.here hx rfl (hb hby at_107) rfl k_) ?_
  show own_Go p e below T20 (mkF m 109 #[.val (.int p0), .val (.int x0), .val (.int x1), .val (.int x2), .val (.int (3 : Int32)), .val (.ref b1), .val (.ref b13), .val (.double (own_avg ((((0 : Int64) + (x0.toInt64)) + (x1.toInt64)) + (x2.toInt64)) (3 : Int32))), .second, .val (.long (x0.toInt64)), .second, .val (.long (x0.toInt64)), .second, .val (.long (x0.toInt64)), .second, .unset, .unset, .unset, .unset] [(.long (x0.toInt64))]) _
  refine own_st (fun t_ k_ => XS.iloadN X20.here hx rfl (hb hby at_109) rfl k_) ?_
  show own_Go p e below T20 (mkF m 110 #[.val (.int p0), .val (.int x0), .val (.int x1), .val (.int x2), .val (.int (3 : Int32)), .val (.ref b1), .val (.ref b13), .val (.double (own_avg ((((0 : Int64) + (x0.toInt64)) + (x1.toInt64)) + (x2.toInt64)) (3 : Int32))), .second, .val (.long (x0.toInt64)), .second, .val (.long (x0.toInt64)), .second, .val (.long (x0.toInt64)), .second, .unset, .unset, .unset, .unset] [(.int x1), (.long (x0.toInt64))]) _
  refine own_st (fun t_ k_ => XS.i2l X20.here hx rfl (hb hby at_110) rfl k_) ?_
  show own_Go p e below T20 (mkF m 111 #[.val (.int p0), .val (.int x0), .val (.int x1), .val (.int x2), .val (.int (3 : Int32)), .val (.ref b1), .val (.ref b13), .val (.double (own_avg ((((0 : Int64) + (x0.toInt64)) + (x1.toInt64)) + (x2.toInt64)) (3 : Int32))), .second, .val (.long (x0.toInt64)), .second, .val (.long (x0.toInt64)), .second, .val (.long (x0.toInt64)), .second, .unset, .unset, .unset, .unset] [(.long (x1.toInt64)), (.long (x0.toInt64))]) _
  refine own_st (fun t_ k_ => XS.ladd X20.here hx rfl (hb hby at_111) rfl k_) ?_
  show own_Go p e below T20 (mkF m 112 #[.val (.int p0), .val (.int x0), .val (.int x1), .val (.int x2), .val (.int (3 : Int32)), .val (.ref b1), .val (.ref b13), .val (.double (own_avg ((((0 : Int64) + (x0.toInt64)) + (x1.toInt64)) + (x2.toInt64)) (3 : Int32))), .second, .val (.long (x0.toInt64)), .second, .val (.long (x0.toInt64)), .second, .val (.long (x0.toInt64)), .second, .unset, .unset, .unset, .unset] [(.long ((x0.toInt64) + (x1.toInt64)))]) _
  refine own_st (fun t_ k_ => XS.lstore X20.here hx rfl (hb hby at_112) rfl (l' := #[.val (.int p0), .val (.int x0), .val (.int x1), .val (.int x2), .val (.int (3 : Int32)), .val (.ref b1), .val (.ref b13), .val (.double (own_avg ((((0 : Int64) + (x0.toInt64)) + (x1.toInt64)) + (x2.toInt64)) (3 : Int32))), .second, .val (.long ((x0.toInt64) + (x1.toInt64))), .second, .val (.long (x0.toInt64)), .second, .val (.long (x0.toInt64)), .second, .unset, .unset, .unset, .unset]) rfl k_) ?_
  show own_Go p e below T20 (mkF m 114 #[.val (.int p0), .val (.int x0), .val (.int x1), .val (.int x2), .val (.int (3 : Int32)), .val (.ref b1), .val (.ref b13), .val (.double (own_avg ((((0 : Int64) + (x0.toInt64)) + (x1.toInt64)) + (x2.toInt64)) (3 : Int32))), .second, .val (.long ((x0.toInt64) + (x1.toInt64))), .second, .val (.long (x0.toInt64)), .second, .val (.long (x0.toInt64)), .second, .unset, .unset, .unset, .unset] []) _
  refine own_st (fun t_ k_ => XS.lload X20.here hx rfl (hb hby at_114) rfl k_) ?_
  show own_Go p e below T20 (mkF m 116 #[.val (.int p0), .val (.int x0), .val (.int x1), .val (.int x2), .val (.int (3 : Int32)), .val (.ref b1), .val (.ref b13), .val (.double (own_avg ((((0 : Int64) + (x0.toInt64)) + (x1.toInt64)) + (x2.toInt64)) (3 : Int32))), .second, .val (.long ((x0.toInt64) + (x1.toInt64))), .second, .val (.long (x0.toInt64)), .second, .val (.long (x0.toInt64)), .second, .unset, .unset, .unset, .unset] [(.long (x0.toInt64))]) _
  refine own_st (fun t_ k_ => XS.iloadN X20.here hx rfl (hb hby at_116) rfl k_) ?_
  show own_Go p e below T20 (mkF m 117 #[.val (.int p0), .val (.int x0), .val (.int x1), .val (.int x2), .val (.int (3 : Int32)), .val (.ref b1), .val (.ref b13), .val (.double (own_avg ((((0 : Int64) + (x0.toInt64)) + (x1.toInt64)) + (x2.toInt64)) (3 : Int32))), .second, .val (.long ((x0.toInt64) + (x1.toInt64))), .second, .val (.long (x0.toInt64)), .second, .val (.long (x0.toInt64)), .second, .unset, .unset, .unset, .unset] [(.int x1), (.long (x0.toInt64))]) _
  refine own_st (fun t_ k_ => XS.i2l X20.here hx rfl (hb hby at_117) rfl k_) ?_
  show own_Go p e below T20 (mkF m 118 #[.val (.int p0), .val (.int x0), .val (.int x1), .val (.int x2), .val (.int (3 : Int32)), .val (.ref b1), .val (.ref b13), .val (.double (own_avg ((((0 : Int64) + (x0.toInt64)) + (x1.toInt64)) + (x2.toInt64)) (3 : Int32))), .second, .val (.long ((x0.toInt64) + (x1.toInt64))), .second, .val (.long (x0.toInt64)), .second, .val (.long (x0.toInt64)), .second, .unset, .unset, .unset, .unset] [(.long (x1.toInt64)), (.long (x0.toInt64))]) _
  obtain ⟨_, _, ⟨T21, L21, k21, n21⟩, -, X21, ⟨Lc21, hQ21, l21, y21, z21⟩, st21⟩ := Jvm.LawKit.callS X20 hx (y := (⟨"java/lang/Math", "min", "(JJ)J"⟩ : MethodName)) hown (mvT hZ (hw _ (List.mem_of_getElem? (i := 21) rfl))) (mvT hZ (hw _ (List.mem_of_getElem? (i := 22) rfl))) (mvT hZ (hw _ (List.mem_of_getElem? (i := 23) rfl))) (mvT hZ (hw _ (List.mem_of_getElem? (i := 24) rfl))) (by decide) (backOf (W := 0) (rmMin l Z a0 hw [] ((x0.toInt64)) ((x1.toInt64)) T17.heap n0 f19 ) hZ (hw _ (List.mem_of_getElem? (i := 24) rfl)) (hw _ (List.mem_of_getElem? (i := 23) rfl)) (by decide) (by decide)) (g := (mkF m 118 #[.val (.int p0), .val (.int x0), .val (.int x1), .val (.int x2), .val (.int (3 : Int32)), .val (.ref b1), .val (.ref b13), .val (.double (own_avg ((((0 : Int64) + (x0.toInt64)) + (x1.toInt64)) + (x2.toInt64)) (3 : Int32))), .second, .val (.long ((x0.toInt64) + (x1.toInt64))), .second, .val (.long (x0.toInt64)), .second, .val (.long (x0.toInt64)), .second, .unset, .unset, .unset, .unset] [(.long (x1.toInt64)), (.long (x0.toInt64))])) rfl (by rw [hml]; rfl) (argsL := [(.long (x0.toInt64)), (.long (x1.toInt64))]) (rest := []) (lenOf pd__JJ_J rfl) rfl (by show 2 * 0 + _ ≤ _; exact Nat.le_of_eq rfl) (hb hby at_118) (fun _ _ => ⟨rfl, eH20, (by decide : 2 + 0 ≤ _), (by decide : 6 + 0 ≤ _)⟩)
  dsimp only [Pt.U, Pt.locs, Pt.cells, Pt.slots] at X21 l21 y21 z21 st21 hQ21
  subst l21 y21 z21
  obtain ⟨r_21, rfl, Nq21, eH21, q21_0⟩ := hQ21
  have N21 := Fr.app N20 Nq21
  refine own_st st21 ?_
  show own_Go p e below T21 (mkF m 121 #[.val (.int p0), .val (.int x0), .val (.int x1), .val (.int x2), .val (.int (3 : Int32)), .val (.ref b1), .val (.ref b13), .val (.double (own_avg ((((0 : Int64) + (x0.toInt64)) + (x1.toInt64)) + (x2.toInt64)) (3 : Int32))), .second, .val (.long ((x0.toInt64) + (x1.toInt64))), .second, .val (.long (x0.toInt64)), .second, .val (.long (x0.toInt64)), .second, .unset, .unset, .unset, .unset] [(.long r_21)]) _
  have b21 : r_21.toInt ≤ (x0.toInt64).toInt ∧ r_21.toInt ≤ (x1.toInt64).toInt ∧ (r_21.toInt = (x0.toInt64).toInt ∨ r_21.toInt = (x1.toInt64).toInt) := by rcases q21_0 with ⟨h, rfl⟩ | ⟨h, rfl⟩ <;> omega
  refine own_st (fun t_ k_ => XS.lstore X21.here hx rfl (hb hby at_121) rfl (l' := #[.val (.int p0), .val (.int x0), .val (.int x1), .val (.int x2), .val (.int (3 : Int32)), .val (.ref b1), .val (.ref b13), .val (.double (own_avg ((((0 : Int64) + (x0.toInt64)) + (x1.toInt64)) + (x2.toInt64)) (3 : Int32))), .second, .val (.long ((x0.toInt64) + (x1.toInt64))), .second, .val (.long r_21), .second, .val (.long (x0.toInt64)), .second, .unset, .unset, .unset, .unset]) rfl k_) ?_
  show own_Go p e below T21 (mkF m 123 #[.val (.int p0), .val (.int x0), .val (.int x1), .val (.int x2), .val (.int (3 : Int32)), .val (.ref b1), .val (.ref b13), .val (.double (own_avg ((((0 : Int64) + (x0.toInt64)) + (x1.toInt64)) + (x2.toInt64)) (3 : Int32))), .second, .val (.long ((x0.toInt64) + (x1.toInt64))), .second, .val (.long r_21), .second, .val (.long (x0.toInt64)), .second, .unset, .unset, .unset, .unset] []) _
  refine own_st (fun t_ k_ => XS.lload X21.here hx rfl (hb hby at_123) rfl k_) ?_
  show own_Go p e below T21 (mkF m 125 #[.val (.int p0), .val (.int x0), .val (.int x1), .val (.int x2), .val (.int (3 : Int32)), .val (.ref b1), .val (.ref b13), .val (.double (own_avg ((((0 : Int64) + (x0.toInt64)) + (x1.toInt64)) + (x2.toInt64)) (3 : Int32))), .second, .val (.long ((x0.toInt64) + (x1.toInt64))), .second, .val (.long r_21), .second, .val (.long (x0.toInt64)), .second, .unset, .unset, .unset, .unset] [(.long (x0.toInt64))]) _
  refine own_st (fun t_ k_ => XS.iloadN X21.here hx rfl (hb hby at_125) rfl k_) ?_
  show own_Go p e below T21 (mkF m 126 #[.val (.int p0), .val (.int x0), .val (.int x1), .val (.int x2), .val (.int (3 : Int32)), .val (.ref b1), .val (.ref b13), .val (.double (own_avg ((((0 : Int64) + (x0.toInt64)) + (x1.toInt64)) + (x2.toInt64)) (3 : Int32))), .second, .val (.long ((x0.toInt64) + (x1.toInt64))), .second, .val (.long r_21), .second, .val (.long (x0.toInt64)), .second, .unset, .unset, .unset, .unset] [(.int x1), (.long (x0.toInt64))]) _
  refine own_st (fun t_ k_ => XS.i2l X21.here hx rfl (hb hby at_126) rfl k_) ?_
  show own_Go p e below T21 (mkF m 127 #[.val (.int p0), .val (.int x0), .val (.int x1), .val (.int x2), .val (.int (3 : Int32)), .val (.ref b1), .val (.ref b13), .val (.double (own_avg ((((0 : Int64) + (x0.toInt64)) + (x1.toInt64)) + (x2.toInt64)) (3 : Int32))), .second, .val (.long ((x0.toInt64) + (x1.toInt64))), .second, .val (.long r_21), .second, .val (.long (x0.toInt64)), .second, .unset, .unset, .unset, .unset] [(.long (x1.toInt64)), (.long (x0.toInt64))]) _
  obtain ⟨_, _, ⟨T22, L22, k22, n22⟩, -, X22, ⟨Lc22, hQ22, l22, y22, z22⟩, st22⟩ := Jvm.LawKit.callS X21 hx (y := (⟨"java/lang/Math", "max", "(JJ)J"⟩ : MethodName)) hown (mvT hZ (hw _ (List.mem_of_getElem? (i := 25) rfl))) (mvT hZ (hw _ (List.mem_of_getElem? (i := 26) rfl))) (mvT hZ (hw _ (List.mem_of_getElem? (i := 23) rfl))) (mvT hZ (hw _ (List.mem_of_getElem? (i := 27) rfl))) (by decide) (backOf (W := 0) (rmMax l Z a0 hw [] ((x0.toInt64)) ((x1.toInt64)) T17.heap n0 f19 ) hZ (hw _ (List.mem_of_getElem? (i := 27) rfl)) (hw _ (List.mem_of_getElem? (i := 23) rfl)) (by decide) (by decide)) (g := (mkF m 127 #[.val (.int p0), .val (.int x0), .val (.int x1), .val (.int x2), .val (.int (3 : Int32)), .val (.ref b1), .val (.ref b13), .val (.double (own_avg ((((0 : Int64) + (x0.toInt64)) + (x1.toInt64)) + (x2.toInt64)) (3 : Int32))), .second, .val (.long ((x0.toInt64) + (x1.toInt64))), .second, .val (.long r_21), .second, .val (.long (x0.toInt64)), .second, .unset, .unset, .unset, .unset] [(.long (x1.toInt64)), (.long (x0.toInt64))])) rfl (by rw [hml]; rfl) (argsL := [(.long (x0.toInt64)), (.long (x1.toInt64))]) (rest := []) (lenOf pd__JJ_J rfl) rfl (by show 2 * 0 + _ ≤ _; exact Nat.le_of_eq rfl) (hb hby at_127) (fun _ _ => ⟨rfl, eH21, (by decide : 2 + 0 ≤ _), (by decide : 6 + 0 ≤ _)⟩)
  dsimp only [Pt.U, Pt.locs, Pt.cells, Pt.slots] at X22 l22 y22 z22 st22 hQ22
  subst l22 y22 z22
  obtain ⟨r_22, rfl, Nq22, eH22, q22_0⟩ := hQ22
  have N22 := Fr.app N21 Nq22
  refine own_st st22 ?_
  show own_Go p e below T22 (mkF m 130 #[.val (.int p0), .val (.int x0), .val (.int x1), .val (.int x2), .val (.int (3 : Int32)), .val (.ref b1), .val (.ref b13), .val (.double (own_avg ((((0 : Int64) + (x0.toInt64)) + (x1.toInt64)) + (x2.toInt64)) (3 : Int32))), .second, .val (.long ((x0.toInt64) + (x1.toInt64))), .second, .val (.long r_21), .second, .val (.long (x0.toInt64)), .second, .unset, .unset, .unset, .unset] [(.long r_22)]) _
  have b22 : (x0.toInt64).toInt ≤ r_22.toInt ∧ (x1.toInt64).toInt ≤ r_22.toInt ∧ (r_22.toInt = (x0.toInt64).toInt ∨ r_22.toInt = (x1.toInt64).toInt) := by rcases q22_0 with ⟨h, rfl⟩ | ⟨h, rfl⟩ <;> omega
  refine own_st (fun t_ k_ => XS.lstore X22.here hx rfl (hb hby at_130) rfl (l' := #[.val (.int p0), .val (.int x0), .val (.int x1), .val (.int x2), .val (.int (3 : Int32)), .val (.ref b1), .val (.ref b13), .val (.double (own_avg ((((0 : Int64) + (x0.toInt64)) + (x1.toInt64)) + (x2.toInt64)) (3 : Int32))), .second, .val (.long ((x0.toInt64) + (x1.toInt64))), .second, .val (.long r_21), .second, .val (.long r_22), .second, .unset, .unset, .unset, .unset]) rfl k_) ?_
  show own_Go p e below T22 (mkF m 132 #[.val (.int p0), .val (.int x0), .val (.int x1), .val (.int x2), .val (.int (3 : Int32)), .val (.ref b1), .val (.ref b13), .val (.double (own_avg ((((0 : Int64) + (x0.toInt64)) + (x1.toInt64)) + (x2.toInt64)) (3 : Int32))), .second, .val (.long ((x0.toInt64) + (x1.toInt64))), .second, .val (.long r_21), .second, .val (.long r_22), .second, .unset, .unset, .unset, .unset] []) _
  refine own_st (fun t_ k_ => XS.iload X22.here hx rfl (hb hby at_132) rfl k_) ?_
  show own_Go p e below T22 (mkF m 134 #[.val (.int p0), .val (.int x0), .val (.int x1), .val (.int x2), .val (.int (3 : Int32)), .val (.ref b1), .val (.ref b13), .val (.double (own_avg ((((0 : Int64) + (x0.toInt64)) + (x1.toInt64)) + (x2.toInt64)) (3 : Int32))), .second, .val (.long ((x0.toInt64) + (x1.toInt64))), .second, .val (.long r_21), .second, .val (.long r_22), .second, .unset, .unset, .unset, .unset] [(.int (3 : Int32))]) _
  refine own_st (fun t_ k_ => XS.iconst X22.here hx rfl (hb hby at_134) k_) ?_
  show own_Go p e below T22 (mkF m 135 #[.val (.int p0), .val (.int x0), .val (.int x1), .val (.int x2), .val (.int (3 : Int32)), .val (.ref b1), .val (.ref b13), .val (.double (own_avg ((((0 : Int64) + (x0.toInt64)) + (x1.toInt64)) + (x2.toInt64)) (3 : Int32))), .second, .val (.long ((x0.toInt64) + (x1.toInt64))), .second, .val (.long r_21), .second, .val (.long r_22), .second, .unset, .unset, .unset, .unset] [(.int (2 : Int32)), (.int (3 : Int32))]) _
  refine own_st (fun t_ k_ => XS.icmpNo X22.here hx rfl (hb hby at_135) rfl (by decide) k_) ?_
  show own_Go p e below T22 (mkF m 138 #[.val (.int p0), .val (.int x0), .val (.int x1), .val (.int x2), .val (.int (3 : Int32)), .val (.ref b1), .val (.ref b13), .val (.double (own_avg ((((0 : Int64) + (x0.toInt64)) + (x1.toInt64)) + (x2.toInt64)) (3 : Int32))), .second, .val (.long ((x0.toInt64) + (x1.toInt64))), .second, .val (.long r_21), .second, .val (.long r_22), .second, .unset, .unset, .unset, .unset] []) _
  refine own_st (fun t_ k_ => XS.lload X22.here hx rfl (hb hby at_138) rfl k_) ?_
  show own_Go p e below T22 (mkF m 140 #[.val (.int p0), .val (.int x0), .val (.int x1), .val (.int x2), .val (.int (3 : Int32)), .val (.ref b1), .val (.ref b13), .val (.double (own_avg ((((0 : Int64) + (x0.toInt64)) + (x1.toInt64)) + (x2.toInt64)) (3 : Int32))), .second, .val (.long ((x0.toInt64) + (x1.toInt64))), .second, .val (.long r_21), .second, .val (.long r_22), .second, .unset, .unset, .unset, .unset] [(.long ((x0.toInt64) + (x1.toInt64)))]) _
  refine own_st (fun t_ k_ => XS.iloadN X22.here hx rfl (hb hby at_140) rfl k_) ?_
  show own_Go p e below T22 (mkF m 141 #[.val (.int p0), .val (.int x0), .val (.int x1), .val (.int x2), .val (.int (3 : Int32)), .val (.ref b1), .val (.ref b13), .val (.double (own_avg ((((0 : Int64) + (x0.toInt64)) + (x1.toInt64)) + (x2.toInt64)) (3 : Int32))), .second, .val (.long ((x0.toInt64) + (x1.toInt64))), .second, .val (.long r_21), .second, .val (.long r_22), .second, .unset, .unset, .unset, .unset] [(.int x2), (.long ((x0.toInt64) + (x1.toInt64)))]) _
  refine own_st (fun t_ k_ => XS.i2l X22.here hx rfl (hb hby at_141) rfl k_) ?_
  show own_Go p e below T22 (mkF m 142 #[.val (.int p0), .val (.int x0), .val (.int x1), .val (.int x2), .val (.int (3 : Int32)), .val (.ref b1), .val (.ref b13), .val (.double (own_avg ((((0 : Int64) + (x0.toInt64)) + (x1.toInt64)) + (x2.toInt64)) (3 : Int32))), .second, .val (.long ((x0.toInt64) + (x1.toInt64))), .second, .val (.long r_21), .second, .val (.long r_22), .second, .unset, .unset, .unset, .unset] [(.long (x2.toInt64)), (.long ((x0.toInt64) + (x1.toInt64)))]) _
  refine own_st (fun t_ k_ => XS.ladd X22.here hx rfl (hb hby at_142) rfl k_) ?_
  show own_Go p e below T22 (mkF m 143 #[.val (.int p0), .val (.int x0), .val (.int x1), .val (.int x2), .val (.int (3 : Int32)), .val (.ref b1), .val (.ref b13), .val (.double (own_avg ((((0 : Int64) + (x0.toInt64)) + (x1.toInt64)) + (x2.toInt64)) (3 : Int32))), .second, .val (.long ((x0.toInt64) + (x1.toInt64))), .second, .val (.long r_21), .second, .val (.long r_22), .second, .unset, .unset, .unset, .unset] [(.long (((x0.toInt64) + (x1.toInt64)) + (x2.toInt64)))]) _
  refine own_st (fun t_ k_ => XS.lstore X22.here hx rfl (hb hby at_143) rfl (l' := #[.val (.int p0), .val (.int x0), .val (.int x1), .val (.int x2), .val (.int (3 : Int32)), .val (.ref b1), .val (.ref b13), .val (.double (own_avg ((((0 : Int64) + (x0.toInt64)) + (x1.toInt64)) + (x2.toInt64)) (3 : Int32))), .second, .val (.long (((x0.toInt64) + (x1.toInt64)) + (x2.toInt64))), .second, .val (.long r_21), .second, .val (.long r_22), .second, .unset, .unset, .unset, .unset]) rfl k_) ?_
  show own_Go p e below T22 (mkF m 145 #[.val (.int p0), .val (.int x0), .val (.int x1), .val (.int x2), .val (.int (3 : Int32)), .val (.ref b1), .val (.ref b13), .val (.double (own_avg ((((0 : Int64) + (x0.toInt64)) + (x1.toInt64)) + (x2.toInt64)) (3 : Int32))), .second, .val (.long (((x0.toInt64) + (x1.toInt64)) + (x2.toInt64))), .second, .val (.long r_21), .second, .val (.long r_22), .second, .unset, .unset, .unset, .unset] []) _
  refine own_st (fun t_ k_ => XS.lload X22.here hx rfl (hb hby at_145) rfl k_) ?_
  show own_Go p e below T22 (mkF m 147 #[.val (.int p0), .val (.int x0), .val (.int x1), .val (.int x2), .val (.int (3 : Int32)), .val (.ref b1), .val (.ref b13), .val (.double (own_avg ((((0 : Int64) + (x0.toInt64)) + (x1.toInt64)) + (x2.toInt64)) (3 : Int32))), .second, .val (.long (((x0.toInt64) + (x1.toInt64)) + (x2.toInt64))), .second, .val (.long r_21), .second, .val (.long r_22), .second, .unset, .unset, .unset, .unset] [(.long r_21)]) _
  refine own_st (fun t_ k_ => XS.iloadN X22.here hx rfl (hb hby at_147) rfl k_) ?_
  show own_Go p e below T22 (mkF m 148 #[.val (.int p0), .val (.int x0), .val (.int x1), .val (.int x2), .val (.int (3 : Int32)), .val (.ref b1), .val (.ref b13), .val (.double (own_avg ((((0 : Int64) + (x0.toInt64)) + (x1.toInt64)) + (x2.toInt64)) (3 : Int32))), .second, .val (.long (((x0.toInt64) + (x1.toInt64)) + (x2.toInt64))), .second, .val (.long r_21), .second, .val (.long r_22), .second, .unset, .unset, .unset, .unset] [(.int x2), (.long r_21)]) _
  refine own_st (fun t_ k_ => XS.i2l X22.here hx rfl (hb hby at_148) rfl k_) ?_
  show own_Go p e below T22 (mkF m 149 #[.val (.int p0), .val (.int x0), .val (.int x1), .val (.int x2), .val (.int (3 : Int32)), .val (.ref b1), .val (.ref b13), .val (.double (own_avg ((((0 : Int64) + (x0.toInt64)) + (x1.toInt64)) + (x2.toInt64)) (3 : Int32))), .second, .val (.long (((x0.toInt64) + (x1.toInt64)) + (x2.toInt64))), .second, .val (.long r_21), .second, .val (.long r_22), .second, .unset, .unset, .unset, .unset] [(.long (x2.toInt64)), (.long r_21)]) _
  obtain ⟨_, _, ⟨T23, L23, k23, n23⟩, -, X23, ⟨Lc23, hQ23, l23, y23, z23⟩, st23⟩ := Jvm.LawKit.callS X22 hx (y := (⟨"java/lang/Math", "min", "(JJ)J"⟩ : MethodName)) hown (mvT hZ (hw _ (List.mem_of_getElem? (i := 21) rfl))) (mvT hZ (hw _ (List.mem_of_getElem? (i := 22) rfl))) (mvT hZ (hw _ (List.mem_of_getElem? (i := 23) rfl))) (mvT hZ (hw _ (List.mem_of_getElem? (i := 24) rfl))) (by decide) (backOf (W := 0) (rmMin l Z a0 hw [] r_21 ((x2.toInt64)) T17.heap n0 f19 ) hZ (hw _ (List.mem_of_getElem? (i := 24) rfl)) (hw _ (List.mem_of_getElem? (i := 23) rfl)) (by decide) (by decide)) (g := (mkF m 149 #[.val (.int p0), .val (.int x0), .val (.int x1), .val (.int x2), .val (.int (3 : Int32)), .val (.ref b1), .val (.ref b13), .val (.double (own_avg ((((0 : Int64) + (x0.toInt64)) + (x1.toInt64)) + (x2.toInt64)) (3 : Int32))), .second, .val (.long (((x0.toInt64) + (x1.toInt64)) + (x2.toInt64))), .second, .val (.long r_21), .second, .val (.long r_22), .second, .unset, .unset, .unset, .unset] [(.long (x2.toInt64)), (.long r_21)])) rfl (by rw [hml]; rfl) (argsL := [(.long r_21), (.long (x2.toInt64))]) (rest := []) (lenOf pd__JJ_J rfl) rfl (by show 2 * 0 + _ ≤ _; exact Nat.le_of_eq rfl) (hb hby at_149) (fun _ _ => ⟨rfl, eH22, (by decide : 2 + 0 ≤ _), (by decide : 6 + 0 ≤ _)⟩)
  dsimp only [Pt.U, Pt.locs, Pt.cells, Pt.slots] at X23 l23 y23 z23 st23 hQ23
  subst l23 y23 z23
  obtain ⟨r_23, rfl, Nq23, eH23, q23_0⟩ := hQ23
  have N23 := Fr.app N22 Nq23
  refine own_st st23 ?_
  show own_Go p e below T23 (mkF m 152 #[.val (.int p0), .val (.int x0), .val (.int x1), .val (.int x2), .val (.int (3 : Int32)), .val (.ref b1), .val (.ref b13), .val (.double (own_avg ((((0 : Int64) + (x0.toInt64)) + (x1.toInt64)) + (x2.toInt64)) (3 : Int32))), .second, .val (.long (((x0.toInt64) + (x1.toInt64)) + (x2.toInt64))), .second, .val (.long r_21), .second, .val (.long r_22), .second, .unset, .unset, .unset, .unset] [(.long r_23)]) _
  have b23 : r_23.toInt ≤ r_21.toInt ∧ r_23.toInt ≤ (x2.toInt64).toInt ∧ (r_23.toInt = r_21.toInt ∨ r_23.toInt = (x2.toInt64).toInt) := by rcases q23_0 with ⟨h, rfl⟩ | ⟨h, rfl⟩ <;> omega
  refine own_st (fun t_ k_ => XS.lstore X23.here hx rfl (hb hby at_152) rfl (l' := #[.val (.int p0), .val (.int x0), .val (.int x1), .val (.int x2), .val (.int (3 : Int32)), .val (.ref b1), .val (.ref b13), .val (.double (own_avg ((((0 : Int64) + (x0.toInt64)) + (x1.toInt64)) + (x2.toInt64)) (3 : Int32))), .second, .val (.long (((x0.toInt64) + (x1.toInt64)) + (x2.toInt64))), .second, .val (.long r_23), .second, .val (.long r_22), .second, .unset, .unset, .unset, .unset]) rfl k_) ?_
  show own_Go p e below T23 (mkF m 154 #[.val (.int p0), .val (.int x0), .val (.int x1), .val (.int x2), .val (.int (3 : Int32)), .val (.ref b1), .val (.ref b13), .val (.double (own_avg ((((0 : Int64) + (x0.toInt64)) + (x1.toInt64)) + (x2.toInt64)) (3 : Int32))), .second, .val (.long (((x0.toInt64) + (x1.toInt64)) + (x2.toInt64))), .second, .val (.long r_23), .second, .val (.long r_22), .second, .unset, .unset, .unset, .unset] []) _
  refine own_st (fun t_ k_ => XS.lload X23.here hx rfl (hb hby at_154) rfl k_) ?_
  show own_Go p e below T23 (mkF m 156 #[.val (.int p0), .val (.int x0), .val (.int x1), .val (.int x2), .val (.int (3 : Int32)), .val (.ref b1), .val (.ref b13), .val (.double (own_avg ((((0 : Int64) + (x0.toInt64)) + (x1.toInt64)) + (x2.toInt64)) (3 : Int32))), .second, .val (.long (((x0.toInt64) + (x1.toInt64)) + (x2.toInt64))), .second, .val (.long r_23), .second, .val (.long r_22), .second, .unset, .unset, .unset, .unset] [(.long r_22)]) _
  refine own_st (fun t_ k_ => XS.iloadN X23.here hx rfl (hb hby at_156) rfl k_) ?_
  show own_Go p e below T23 (mkF m 157 #[.val (.int p0), .val (.int x0), .val (.int x1), .val (.int x2), .val (.int (3 : Int32)), .val (.ref b1), .val (.ref b13), .val (.double (own_avg ((((0 : Int64) + (x0.toInt64)) + (x1.toInt64)) + (x2.toInt64)) (3 : Int32))), .second, .val (.long (((x0.toInt64) + (x1.toInt64)) + (x2.toInt64))), .second, .val (.long r_23), .second, .val (.long r_22), .second, .unset, .unset, .unset, .unset] [(.int x2), (.long r_22)]) _
  refine own_st (fun t_ k_ => XS.i2l X23.here hx rfl (hb hby at_157) rfl k_) ?_
  show own_Go p e below T23 (mkF m 158 #[.val (.int p0), .val (.int x0), .val (.int x1), .val (.int x2), .val (.int (3 : Int32)), .val (.ref b1), .val (.ref b13), .val (.double (own_avg ((((0 : Int64) + (x0.toInt64)) + (x1.toInt64)) + (x2.toInt64)) (3 : Int32))), .second, .val (.long (((x0.toInt64) + (x1.toInt64)) + (x2.toInt64))), .second, .val (.long r_23), .second, .val (.long r_22), .second, .unset, .unset, .unset, .unset] [(.long (x2.toInt64)), (.long r_22)]) _
  obtain ⟨_, _, ⟨T24, L24, k24, n24⟩, -, X24, ⟨Lc24, hQ24, l24, y24, z24⟩, st24⟩ := Jvm.LawKit.callS X23 hx (y := (⟨"java/lang/Math", "max", "(JJ)J"⟩ : MethodName)) hown (mvT hZ (hw _ (List.mem_of_getElem? (i := 25) rfl))) (mvT hZ (hw _ (List.mem_of_getElem? (i := 26) rfl))) (mvT hZ (hw _ (List.mem_of_getElem? (i := 23) rfl))) (mvT hZ (hw _ (List.mem_of_getElem? (i := 27) rfl))) (by decide) (backOf (W := 0) (rmMax l Z a0 hw [] r_22 ((x2.toInt64)) T17.heap n0 f19 ) hZ (hw _ (List.mem_of_getElem? (i := 27) rfl)) (hw _ (List.mem_of_getElem? (i := 23) rfl)) (by decide) (by decide)) (g := (mkF m 158 #[.val (.int p0), .val (.int x0), .val (.int x1), .val (.int x2), .val (.int (3 : Int32)), .val (.ref b1), .val (.ref b13), .val (.double (own_avg ((((0 : Int64) + (x0.toInt64)) + (x1.toInt64)) + (x2.toInt64)) (3 : Int32))), .second, .val (.long (((x0.toInt64) + (x1.toInt64)) + (x2.toInt64))), .second, .val (.long r_23), .second, .val (.long r_22), .second, .unset, .unset, .unset, .unset] [(.long (x2.toInt64)), (.long r_22)])) rfl (by rw [hml]; rfl) (argsL := [(.long r_22), (.long (x2.toInt64))]) (rest := []) (lenOf pd__JJ_J rfl) rfl (by show 2 * 0 + _ ≤ _; exact Nat.le_of_eq rfl) (hb hby at_158) (fun _ _ => ⟨rfl, eH23, (by decide : 2 + 0 ≤ _), (by decide : 6 + 0 ≤ _)⟩)
  dsimp only [Pt.U, Pt.locs, Pt.cells, Pt.slots] at X24 l24 y24 z24 st24 hQ24
  subst l24 y24 z24
  obtain ⟨r_24, rfl, Nq24, eH24, q24_0⟩ := hQ24
  have N24 := Fr.app N23 Nq24
  refine own_st st24 ?_
  show own_Go p e below T24 (mkF m 161 #[.val (.int p0), .val (.int x0), .val (.int x1), .val (.int x2), .val (.int (3 : Int32)), .val (.ref b1), .val (.ref b13), .val (.double (own_avg ((((0 : Int64) + (x0.toInt64)) + (x1.toInt64)) + (x2.toInt64)) (3 : Int32))), .second, .val (.long (((x0.toInt64) + (x1.toInt64)) + (x2.toInt64))), .second, .val (.long r_23), .second, .val (.long r_22), .second, .unset, .unset, .unset, .unset] [(.long r_24)]) _
  have b24 : r_22.toInt ≤ r_24.toInt ∧ (x2.toInt64).toInt ≤ r_24.toInt ∧ (r_24.toInt = r_22.toInt ∨ r_24.toInt = (x2.toInt64).toInt) := by rcases q24_0 with ⟨h, rfl⟩ | ⟨h, rfl⟩ <;> omega
  refine own_st (fun t_ k_ => XS.lstore X24.here hx rfl (hb hby at_161) rfl (l' := #[.val (.int p0), .val (.int x0), .val (.int x1), .val (.int x2), .val (.int (3 : Int32)), .val (.ref b1), .val (.ref b13), .val (.double (own_avg ((((0 : Int64) + (x0.toInt64)) + (x1.toInt64)) + (x2.toInt64)) (3 : Int32))), .second, .val (.long (((x0.toInt64) + (x1.toInt64)) + (x2.toInt64))), .second, .val (.long r_23), .second, .val (.long r_24), .second, .unset, .unset, .unset, .unset]) rfl k_) ?_
  show own_Go p e below T24 (mkF m 163 #[.val (.int p0), .val (.int x0), .val (.int x1), .val (.int x2), .val (.int (3 : Int32)), .val (.ref b1), .val (.ref b13), .val (.double (own_avg ((((0 : Int64) + (x0.toInt64)) + (x1.toInt64)) + (x2.toInt64)) (3 : Int32))), .second, .val (.long (((x0.toInt64) + (x1.toInt64)) + (x2.toInt64))), .second, .val (.long r_23), .second, .val (.long r_24), .second, .unset, .unset, .unset, .unset] []) _
  refine own_st (fun t_ k_ => XS.lload X24.here hx rfl (hb hby at_163) rfl k_) ?_
  show own_Go p e below T24 (mkF m 165 #[.val (.int p0), .val (.int x0), .val (.int x1), .val (.int x2), .val (.int (3 : Int32)), .val (.ref b1), .val (.ref b13), .val (.double (own_avg ((((0 : Int64) + (x0.toInt64)) + (x1.toInt64)) + (x2.toInt64)) (3 : Int32))), .second, .val (.long (((x0.toInt64) + (x1.toInt64)) + (x2.toInt64))), .second, .val (.long r_23), .second, .val (.long r_24), .second, .unset, .unset, .unset, .unset] [(.long (((x0.toInt64) + (x1.toInt64)) + (x2.toInt64)))]) _
  refine own_st (fun t_ k_ => XS.l2dS X24.here hx rfl (hb hby at_165) rfl rfl k_) ?_
  show own_Go p e below T24 (mkF m 166 #[.val (.int p0), .val (.int x0), .val (.int x1), .val (.int x2), .val (.int (3 : Int32)), .val (.ref b1), .val (.ref b13), .val (.double (own_avg ((((0 : Int64) + (x0.toInt64)) + (x1.toInt64)) + (x2.toInt64)) (3 : Int32))), .second, .val (.long (((x0.toInt64) + (x1.toInt64)) + (x2.toInt64))), .second, .val (.long r_23), .second, .val (.long r_24), .second, .unset, .unset, .unset, .unset] [(.double (FP.l2d (((x0.toInt64) + (x1.toInt64)) + (x2.toInt64))))]) _
  refine own_st (fun t_ k_ => XS.iload X24.here hx rfl (hb hby at_166) rfl k_) ?_
  show own_Go p e below T24 (mkF m 168 #[.val (.int p0), .val (.int x0), .val (.int x1), .val (.int x2), .val (.int (3 : Int32)), .val (.ref b1), .val (.ref b13), .val (.double (own_avg ((((0 : Int64) + (x0.toInt64)) + (x1.toInt64)) + (x2.toInt64)) (3 : Int32))), .second, .val (.long (((x0.toInt64) + (x1.toInt64)) + (x2.toInt64))), .second, .val (.long r_23), .second, .val (.long r_24), .second, .unset, .unset, .unset, .unset] [(.int (3 : Int32)), (.double (FP.l2d (((x0.toInt64) + (x1.toInt64)) + (x2.toInt64))))]) _
  refine own_st (fun t_ k_ => XS.i2dS X24.here hx rfl (hb hby at_168) rfl rfl k_) ?_
  show own_Go p e below T24 (mkF m 169 #[.val (.int p0), .val (.int x0), .val (.int x1), .val (.int x2), .val (.int (3 : Int32)), .val (.ref b1), .val (.ref b13), .val (.double (own_avg ((((0 : Int64) + (x0.toInt64)) + (x1.toInt64)) + (x2.toInt64)) (3 : Int32))), .second, .val (.long (((x0.toInt64) + (x1.toInt64)) + (x2.toInt64))), .second, .val (.long r_23), .second, .val (.long r_24), .second, .unset, .unset, .unset, .unset] [(.double (FP.i2d (3 : Int32))), (.double (FP.l2d (((x0.toInt64) + (x1.toInt64)) + (x2.toInt64))))]) _
  have hf := own_avg_facts (n := (3 : Int32)) hs (by decide) (by decide)
  have hav : FP.ddiv (FP.l2d (((x0.toInt64) + (x1.toInt64)) + (x2.toInt64))) (FP.i2d (3 : Int32)) = own_avg ((((0 : Int64) + (x0.toInt64)) + (x1.toInt64)) + (x2.toInt64)) (3 : Int32) := by unfold own_avg; exact congrArg (fun z => FP.ddiv (FP.l2d z) (FP.i2d (3 : Int32))) hsame
  refine own_st (fun t_ k_ => XS.ddivS X24.here hx rfl (hb hby at_169) rfl (by rw [hav]; exact hf.1) hav k_) ?_
  show own_Go p e below T24 (mkF m 170 #[.val (.int p0), .val (.int x0), .val (.int x1), .val (.int x2), .val (.int (3 : Int32)), .val (.ref b1), .val (.ref b13), .val (.double (own_avg ((((0 : Int64) + (x0.toInt64)) + (x1.toInt64)) + (x2.toInt64)) (3 : Int32))), .second, .val (.long (((x0.toInt64) + (x1.toInt64)) + (x2.toInt64))), .second, .val (.long r_23), .second, .val (.long r_24), .second, .unset, .unset, .unset, .unset] [(.double (own_avg ((((0 : Int64) + (x0.toInt64)) + (x1.toInt64)) + (x2.toInt64)) (3 : Int32)))]) _
  have e3 : ((3 : Int32)).toInt = 3 := rfl
  refine own_st (fun t_ k_ => XS.dstore X24.here hx rfl (hb hby at_170) rfl (l' := #[.val (.int p0), .val (.int x0), .val (.int x1), .val (.int x2), .val (.int (3 : Int32)), .val (.ref b1), .val (.ref b13), .val (.double (own_avg ((((0 : Int64) + (x0.toInt64)) + (x1.toInt64)) + (x2.toInt64)) (3 : Int32))), .second, .val (.long (((x0.toInt64) + (x1.toInt64)) + (x2.toInt64))), .second, .val (.long r_23), .second, .val (.long r_24), .second, .val (.double (own_avg ((((0 : Int64) + (x0.toInt64)) + (x1.toInt64)) + (x2.toInt64)) (3 : Int32))), .second, .unset, .unset]) rfl k_) ?_
  show own_Go p e below T24 (mkF m 172 #[.val (.int p0), .val (.int x0), .val (.int x1), .val (.int x2), .val (.int (3 : Int32)), .val (.ref b1), .val (.ref b13), .val (.double (own_avg ((((0 : Int64) + (x0.toInt64)) + (x1.toInt64)) + (x2.toInt64)) (3 : Int32))), .second, .val (.long (((x0.toInt64) + (x1.toInt64)) + (x2.toInt64))), .second, .val (.long r_23), .second, .val (.long r_24), .second, .val (.double (own_avg ((((0 : Int64) + (x0.toInt64)) + (x1.toInt64)) + (x2.toInt64)) (3 : Int32))), .second, .unset, .unset] []) _
  refine own_st (fun t_ k_ => XS.dload X24.here hx rfl (hb hby at_172) rfl k_) ?_
  show own_Go p e below T24 (mkF m 174 #[.val (.int p0), .val (.int x0), .val (.int x1), .val (.int x2), .val (.int (3 : Int32)), .val (.ref b1), .val (.ref b13), .val (.double (own_avg ((((0 : Int64) + (x0.toInt64)) + (x1.toInt64)) + (x2.toInt64)) (3 : Int32))), .second, .val (.long (((x0.toInt64) + (x1.toInt64)) + (x2.toInt64))), .second, .val (.long r_23), .second, .val (.long r_24), .second, .val (.double (own_avg ((((0 : Int64) + (x0.toInt64)) + (x1.toInt64)) + (x2.toInt64)) (3 : Int32))), .second, .unset, .unset] [(.double (own_avg ((((0 : Int64) + (x0.toInt64)) + (x1.toInt64)) + (x2.toInt64)) (3 : Int32)))]) _
  refine own_st (fun t_ k_ => XS.dload X24.here hx rfl (hb hby at_174) rfl k_) ?_
  show own_Go p e below T24 (mkF m 176 #[.val (.int p0), .val (.int x0), .val (.int x1), .val (.int x2), .val (.int (3 : Int32)), .val (.ref b1), .val (.ref b13), .val (.double (own_avg ((((0 : Int64) + (x0.toInt64)) + (x1.toInt64)) + (x2.toInt64)) (3 : Int32))), .second, .val (.long (((x0.toInt64) + (x1.toInt64)) + (x2.toInt64))), .second, .val (.long r_23), .second, .val (.long r_24), .second, .val (.double (own_avg ((((0 : Int64) + (x0.toInt64)) + (x1.toInt64)) + (x2.toInt64)) (3 : Int32))), .second, .unset, .unset] [(.double (own_avg ((((0 : Int64) + (x0.toInt64)) + (x1.toInt64)) + (x2.toInt64)) (3 : Int32))), (.double (own_avg ((((0 : Int64) + (x0.toInt64)) + (x1.toInt64)) + (x2.toInt64)) (3 : Int32)))]) _
  refine own_st (fun t_ k_ => XS.dcmpS X24.here hx rfl (hb hby at_176) rfl (dcmpV_self hf.1 _) k_) ?_
  show own_Go p e below T24 (mkF m 177 #[.val (.int p0), .val (.int x0), .val (.int x1), .val (.int x2), .val (.int (3 : Int32)), .val (.ref b1), .val (.ref b13), .val (.double (own_avg ((((0 : Int64) + (x0.toInt64)) + (x1.toInt64)) + (x2.toInt64)) (3 : Int32))), .second, .val (.long (((x0.toInt64) + (x1.toInt64)) + (x2.toInt64))), .second, .val (.long r_23), .second, .val (.long r_24), .second, .val (.double (own_avg ((((0 : Int64) + (x0.toInt64)) + (x1.toInt64)) + (x2.toInt64)) (3 : Int32))), .second, .unset, .unset] [(.int (0 : Int32))]) _
  refine own_st (fun t_ k_ => XS.ifNo X24.here hx rfl (hb hby at_177) rfl (by decide) k_) ?_
  show own_Go p e below T24 (mkF m 180 #[.val (.int p0), .val (.int x0), .val (.int x1), .val (.int x2), .val (.int (3 : Int32)), .val (.ref b1), .val (.ref b13), .val (.double (own_avg ((((0 : Int64) + (x0.toInt64)) + (x1.toInt64)) + (x2.toInt64)) (3 : Int32))), .second, .val (.long (((x0.toInt64) + (x1.toInt64)) + (x2.toInt64))), .second, .val (.long r_23), .second, .val (.long r_24), .second, .val (.double (own_avg ((((0 : Int64) + (x0.toInt64)) + (x1.toInt64)) + (x2.toInt64)) (3 : Int32))), .second, .unset, .unset] []) _
  refine own_st (fun t_ k_ => XS.iconst X24.here hx rfl (hb hby at_180) k_) ?_
  show own_Go p e below T24 (mkF m 181 #[.val (.int p0), .val (.int x0), .val (.int x1), .val (.int x2), .val (.int (3 : Int32)), .val (.ref b1), .val (.ref b13), .val (.double (own_avg ((((0 : Int64) + (x0.toInt64)) + (x1.toInt64)) + (x2.toInt64)) (3 : Int32))), .second, .val (.long (((x0.toInt64) + (x1.toInt64)) + (x2.toInt64))), .second, .val (.long r_23), .second, .val (.long r_24), .second, .val (.double (own_avg ((((0 : Int64) + (x0.toInt64)) + (x1.toInt64)) + (x2.toInt64)) (3 : Int32))), .second, .unset, .unset] [(.int (1 : Int32))]) _
  refine own_st (fun t_ k_ => XS.goto X24.here hx rfl (pc0 := 181) (pc' := 185) rfl (hb hby at_181) (by decide) (by decide) k_) ?_
  show own_Go p e below T24 (mkF m 185 #[.val (.int p0), .val (.int x0), .val (.int x1), .val (.int x2), .val (.int (3 : Int32)), .val (.ref b1), .val (.ref b13), .val (.double (own_avg ((((0 : Int64) + (x0.toInt64)) + (x1.toInt64)) + (x2.toInt64)) (3 : Int32))), .second, .val (.long (((x0.toInt64) + (x1.toInt64)) + (x2.toInt64))), .second, .val (.long r_23), .second, .val (.long r_24), .second, .val (.double (own_avg ((((0 : Int64) + (x0.toInt64)) + (x1.toInt64)) + (x2.toInt64)) (3 : Int32))), .second, .unset, .unset] [(.int (1 : Int32))]) _
  refine own_st (fun t_ k_ => XS.istore X24.here hx rfl (hb hby at_185) rfl (l' := #[.val (.int p0), .val (.int x0), .val (.int x1), .val (.int x2), .val (.int (3 : Int32)), .val (.ref b1), .val (.ref b13), .val (.double (own_avg ((((0 : Int64) + (x0.toInt64)) + (x1.toInt64)) + (x2.toInt64)) (3 : Int32))), .second, .val (.long (((x0.toInt64) + (x1.toInt64)) + (x2.toInt64))), .second, .val (.long r_23), .second, .val (.long r_24), .second, .val (.double (own_avg ((((0 : Int64) + (x0.toInt64)) + (x1.toInt64)) + (x2.toInt64)) (3 : Int32))), .second, .val (.int (1 : Int32)), .unset]) rfl k_) ?_
  show own_Go p e below T24 (mkF m 187 #[.val (.int p0), .val (.int x0), .val (.int x1), .val (.int x2), .val (.int (3 : Int32)), .val (.ref b1), .val (.ref b13), .val (.double (own_avg ((((0 : Int64) + (x0.toInt64)) + (x1.toInt64)) + (x2.toInt64)) (3 : Int32))), .second, .val (.long (((x0.toInt64) + (x1.toInt64)) + (x2.toInt64))), .second, .val (.long r_23), .second, .val (.long r_24), .second, .val (.double (own_avg ((((0 : Int64) + (x0.toInt64)) + (x1.toInt64)) + (x2.toInt64)) (3 : Int32))), .second, .val (.int (1 : Int32)), .unset] []) _
  refine own_st (fun t_ k_ => XS.dload X24.here hx rfl (hb hby at_187) rfl k_) ?_
  show own_Go p e below T24 (mkF m 189 #[.val (.int p0), .val (.int x0), .val (.int x1), .val (.int x2), .val (.int (3 : Int32)), .val (.ref b1), .val (.ref b13), .val (.double (own_avg ((((0 : Int64) + (x0.toInt64)) + (x1.toInt64)) + (x2.toInt64)) (3 : Int32))), .second, .val (.long (((x0.toInt64) + (x1.toInt64)) + (x2.toInt64))), .second, .val (.long r_23), .second, .val (.long r_24), .second, .val (.double (own_avg ((((0 : Int64) + (x0.toInt64)) + (x1.toInt64)) + (x2.toInt64)) (3 : Int32))), .second, .val (.int (1 : Int32)), .unset] [(.double (own_avg ((((0 : Int64) + (x0.toInt64)) + (x1.toInt64)) + (x2.toInt64)) (3 : Int32)))]) _
  refine own_st (fun t_ k_ => XS.lload X24.here hx rfl (hb hby at_189) rfl k_) ?_
  show own_Go p e below T24 (mkF m 191 #[.val (.int p0), .val (.int x0), .val (.int x1), .val (.int x2), .val (.int (3 : Int32)), .val (.ref b1), .val (.ref b13), .val (.double (own_avg ((((0 : Int64) + (x0.toInt64)) + (x1.toInt64)) + (x2.toInt64)) (3 : Int32))), .second, .val (.long (((x0.toInt64) + (x1.toInt64)) + (x2.toInt64))), .second, .val (.long r_23), .second, .val (.long r_24), .second, .val (.double (own_avg ((((0 : Int64) + (x0.toInt64)) + (x1.toInt64)) + (x2.toInt64)) (3 : Int32))), .second, .val (.int (1 : Int32)), .unset] [(.long r_23), (.double (own_avg ((((0 : Int64) + (x0.toInt64)) + (x1.toInt64)) + (x2.toInt64)) (3 : Int32)))]) _
  refine own_st (fun t_ k_ => XS.l2dS X24.here hx rfl (hb hby at_191) rfl rfl k_) ?_
  show own_Go p e below T24 (mkF m 192 #[.val (.int p0), .val (.int x0), .val (.int x1), .val (.int x2), .val (.int (3 : Int32)), .val (.ref b1), .val (.ref b13), .val (.double (own_avg ((((0 : Int64) + (x0.toInt64)) + (x1.toInt64)) + (x2.toInt64)) (3 : Int32))), .second, .val (.long (((x0.toInt64) + (x1.toInt64)) + (x2.toInt64))), .second, .val (.long r_23), .second, .val (.long r_24), .second, .val (.double (own_avg ((((0 : Int64) + (x0.toInt64)) + (x1.toInt64)) + (x2.toInt64)) (3 : Int32))), .second, .val (.int (1 : Int32)), .unset] [(.double (FP.l2d r_23)), (.double (own_avg ((((0 : Int64) + (x0.toInt64)) + (x1.toInt64)) + (x2.toInt64)) (3 : Int32)))]) _
  refine own_st (fun t_ k_ => XS.dcmpS X24.here hx rfl (hb hby at_192) rfl rfl k_) ?_
  show own_Go p e below T24 (mkF m 193 #[.val (.int p0), .val (.int x0), .val (.int x1), .val (.int x2), .val (.int (3 : Int32)), .val (.ref b1), .val (.ref b13), .val (.double (own_avg ((((0 : Int64) + (x0.toInt64)) + (x1.toInt64)) + (x2.toInt64)) (3 : Int32))), .second, .val (.long (((x0.toInt64) + (x1.toInt64)) + (x2.toInt64))), .second, .val (.long r_23), .second, .val (.long r_24), .second, .val (.double (own_avg ((((0 : Int64) + (x0.toInt64)) + (x1.toInt64)) + (x2.toInt64)) (3 : Int32))), .second, .val (.int (1 : Int32)), .unset] [(.int (cmpValue (FP.dcmp (own_avg ((((0 : Int64) + (x0.toInt64)) + (x1.toInt64)) + (x2.toInt64)) (3 : Int32)) (FP.l2d r_23)) .g))]) _
  refine own_st (fun t_ k_ => XS.ifNo X24.here hx rfl (hb hby at_193) rfl ((if0 _ _).trans (flt (hf.2.1 r_23 (by omega) (by rw [e3, s2]; omega))).1) k_) ?_
  show own_Go p e below T24 (mkF m 196 #[.val (.int p0), .val (.int x0), .val (.int x1), .val (.int x2), .val (.int (3 : Int32)), .val (.ref b1), .val (.ref b13), .val (.double (own_avg ((((0 : Int64) + (x0.toInt64)) + (x1.toInt64)) + (x2.toInt64)) (3 : Int32))), .second, .val (.long (((x0.toInt64) + (x1.toInt64)) + (x2.toInt64))), .second, .val (.long r_23), .second, .val (.long r_24), .second, .val (.double (own_avg ((((0 : Int64) + (x0.toInt64)) + (x1.toInt64)) + (x2.toInt64)) (3 : Int32))), .second, .val (.int (1 : Int32)), .unset] []) _
  refine own_st (fun t_ k_ => XS.lload X24.here hx rfl (hb hby at_196) rfl k_) ?_
  show own_Go p e below T24 (mkF m 198 #[.val (.int p0), .val (.int x0), .val (.int x1), .val (.int x2), .val (.int (3 : Int32)), .val (.ref b1), .val (.ref b13), .val (.double (own_avg ((((0 : Int64) + (x0.toInt64)) + (x1.toInt64)) + (x2.toInt64)) (3 : Int32))), .second, .val (.long (((x0.toInt64) + (x1.toInt64)) + (x2.toInt64))), .second, .val (.long r_23), .second, .val (.long r_24), .second, .val (.double (own_avg ((((0 : Int64) + (x0.toInt64)) + (x1.toInt64)) + (x2.toInt64)) (3 : Int32))), .second, .val (.int (1 : Int32)), .unset] [(.long r_24)]) _
  refine own_st (fun t_ k_ => XS.l2dS X24.here hx rfl (hb hby at_198) rfl rfl k_) ?_
  show own_Go p e below T24 (mkF m 199 #[.val (.int p0), .val (.int x0), .val (.int x1), .val (.int x2), .val (.int (3 : Int32)), .val (.ref b1), .val (.ref b13), .val (.double (own_avg ((((0 : Int64) + (x0.toInt64)) + (x1.toInt64)) + (x2.toInt64)) (3 : Int32))), .second, .val (.long (((x0.toInt64) + (x1.toInt64)) + (x2.toInt64))), .second, .val (.long r_23), .second, .val (.long r_24), .second, .val (.double (own_avg ((((0 : Int64) + (x0.toInt64)) + (x1.toInt64)) + (x2.toInt64)) (3 : Int32))), .second, .val (.int (1 : Int32)), .unset] [(.double (FP.l2d r_24))]) _
  refine own_st (fun t_ k_ => XS.dload X24.here hx rfl (hb hby at_199) rfl k_) ?_
  show own_Go p e below T24 (mkF m 201 #[.val (.int p0), .val (.int x0), .val (.int x1), .val (.int x2), .val (.int (3 : Int32)), .val (.ref b1), .val (.ref b13), .val (.double (own_avg ((((0 : Int64) + (x0.toInt64)) + (x1.toInt64)) + (x2.toInt64)) (3 : Int32))), .second, .val (.long (((x0.toInt64) + (x1.toInt64)) + (x2.toInt64))), .second, .val (.long r_23), .second, .val (.long r_24), .second, .val (.double (own_avg ((((0 : Int64) + (x0.toInt64)) + (x1.toInt64)) + (x2.toInt64)) (3 : Int32))), .second, .val (.int (1 : Int32)), .unset] [(.double (own_avg ((((0 : Int64) + (x0.toInt64)) + (x1.toInt64)) + (x2.toInt64)) (3 : Int32))), (.double (FP.l2d r_24))]) _
  refine own_st (fun t_ k_ => XS.dcmpS X24.here hx rfl (hb hby at_201) rfl rfl k_) ?_
  show own_Go p e below T24 (mkF m 202 #[.val (.int p0), .val (.int x0), .val (.int x1), .val (.int x2), .val (.int (3 : Int32)), .val (.ref b1), .val (.ref b13), .val (.double (own_avg ((((0 : Int64) + (x0.toInt64)) + (x1.toInt64)) + (x2.toInt64)) (3 : Int32))), .second, .val (.long (((x0.toInt64) + (x1.toInt64)) + (x2.toInt64))), .second, .val (.long r_23), .second, .val (.long r_24), .second, .val (.double (own_avg ((((0 : Int64) + (x0.toInt64)) + (x1.toInt64)) + (x2.toInt64)) (3 : Int32))), .second, .val (.int (1 : Int32)), .unset] [(.int (cmpValue (FP.dcmp (FP.l2d r_24) (own_avg ((((0 : Int64) + (x0.toInt64)) + (x1.toInt64)) + (x2.toInt64)) (3 : Int32))) .g))]) _
  refine own_st (fun t_ k_ => XS.ifNo X24.here hx rfl (hb hby at_202) rfl ((if0 _ _).trans (flt (hf.2.2 r_24 (by omega) (by rw [e3, s2]; omega))).1) k_) ?_
  show own_Go p e below T24 (mkF m 205 #[.val (.int p0), .val (.int x0), .val (.int x1), .val (.int x2), .val (.int (3 : Int32)), .val (.ref b1), .val (.ref b13), .val (.double (own_avg ((((0 : Int64) + (x0.toInt64)) + (x1.toInt64)) + (x2.toInt64)) (3 : Int32))), .second, .val (.long (((x0.toInt64) + (x1.toInt64)) + (x2.toInt64))), .second, .val (.long r_23), .second, .val (.long r_24), .second, .val (.double (own_avg ((((0 : Int64) + (x0.toInt64)) + (x1.toInt64)) + (x2.toInt64)) (3 : Int32))), .second, .val (.int (1 : Int32)), .unset] []) _
  refine own_st (fun t_ k_ => XS.iconst X24.here hx rfl (hb hby at_205) k_) ?_
  show own_Go p e below T24 (mkF m 206 #[.val (.int p0), .val (.int x0), .val (.int x1), .val (.int x2), .val (.int (3 : Int32)), .val (.ref b1), .val (.ref b13), .val (.double (own_avg ((((0 : Int64) + (x0.toInt64)) + (x1.toInt64)) + (x2.toInt64)) (3 : Int32))), .second, .val (.long (((x0.toInt64) + (x1.toInt64)) + (x2.toInt64))), .second, .val (.long r_23), .second, .val (.long r_24), .second, .val (.double (own_avg ((((0 : Int64) + (x0.toInt64)) + (x1.toInt64)) + (x2.toInt64)) (3 : Int32))), .second, .val (.int (1 : Int32)), .unset] [(.int (1 : Int32))]) _
  refine own_st (fun t_ k_ => XS.goto X24.here hx rfl (pc0 := 206) (pc' := 210) rfl (hb hby at_206) (by decide) (by decide) k_) ?_
  show own_Go p e below T24 (mkF m 210 #[.val (.int p0), .val (.int x0), .val (.int x1), .val (.int x2), .val (.int (3 : Int32)), .val (.ref b1), .val (.ref b13), .val (.double (own_avg ((((0 : Int64) + (x0.toInt64)) + (x1.toInt64)) + (x2.toInt64)) (3 : Int32))), .second, .val (.long (((x0.toInt64) + (x1.toInt64)) + (x2.toInt64))), .second, .val (.long r_23), .second, .val (.long r_24), .second, .val (.double (own_avg ((((0 : Int64) + (x0.toInt64)) + (x1.toInt64)) + (x2.toInt64)) (3 : Int32))), .second, .val (.int (1 : Int32)), .unset] [(.int (1 : Int32))]) _
  refine own_st (fun t_ k_ => XS.istore X24.here hx rfl (hb hby at_210) rfl (l' := #[.val (.int p0), .val (.int x0), .val (.int x1), .val (.int x2), .val (.int (3 : Int32)), .val (.ref b1), .val (.ref b13), .val (.double (own_avg ((((0 : Int64) + (x0.toInt64)) + (x1.toInt64)) + (x2.toInt64)) (3 : Int32))), .second, .val (.long (((x0.toInt64) + (x1.toInt64)) + (x2.toInt64))), .second, .val (.long r_23), .second, .val (.long r_24), .second, .val (.double (own_avg ((((0 : Int64) + (x0.toInt64)) + (x1.toInt64)) + (x2.toInt64)) (3 : Int32))), .second, .val (.int (1 : Int32)), .val (.int (1 : Int32))]) rfl k_) ?_
  show own_Go p e below T24 (mkF m 212 #[.val (.int p0), .val (.int x0), .val (.int x1), .val (.int x2), .val (.int (3 : Int32)), .val (.ref b1), .val (.ref b13), .val (.double (own_avg ((((0 : Int64) + (x0.toInt64)) + (x1.toInt64)) + (x2.toInt64)) (3 : Int32))), .second, .val (.long (((x0.toInt64) + (x1.toInt64)) + (x2.toInt64))), .second, .val (.long r_23), .second, .val (.long r_24), .second, .val (.double (own_avg ((((0 : Int64) + (x0.toInt64)) + (x1.toInt64)) + (x2.toInt64)) (3 : Int32))), .second, .val (.int (1 : Int32)), .val (.int (1 : Int32))] []) _
  refine own_st (fun t_ k_ => XS.iload X24.here hx rfl (hb hby at_212) rfl k_) ?_
  show own_Go p e below T24 (mkF m 214 #[.val (.int p0), .val (.int x0), .val (.int x1), .val (.int x2), .val (.int (3 : Int32)), .val (.ref b1), .val (.ref b13), .val (.double (own_avg ((((0 : Int64) + (x0.toInt64)) + (x1.toInt64)) + (x2.toInt64)) (3 : Int32))), .second, .val (.long (((x0.toInt64) + (x1.toInt64)) + (x2.toInt64))), .second, .val (.long r_23), .second, .val (.long r_24), .second, .val (.double (own_avg ((((0 : Int64) + (x0.toInt64)) + (x1.toInt64)) + (x2.toInt64)) (3 : Int32))), .second, .val (.int (1 : Int32)), .val (.int (1 : Int32))] [(.int (1 : Int32))]) _
  refine own_st (fun t_ k_ => XS.ifNo X24.here hx rfl (hb hby at_214) rfl (by decide) k_) ?_
  show own_Go p e below T24 (mkF m 217 #[.val (.int p0), .val (.int x0), .val (.int x1), .val (.int x2), .val (.int (3 : Int32)), .val (.ref b1), .val (.ref b13), .val (.double (own_avg ((((0 : Int64) + (x0.toInt64)) + (x1.toInt64)) + (x2.toInt64)) (3 : Int32))), .second, .val (.long (((x0.toInt64) + (x1.toInt64)) + (x2.toInt64))), .second, .val (.long r_23), .second, .val (.long r_24), .second, .val (.double (own_avg ((((0 : Int64) + (x0.toInt64)) + (x1.toInt64)) + (x2.toInt64)) (3 : Int32))), .second, .val (.int (1 : Int32)), .val (.int (1 : Int32))] []) _
  refine own_st (fun t_ k_ => XS.iload X24.here hx rfl (hb hby at_217) rfl k_) ?_
  show own_Go p e below T24 (mkF m 219 #[.val (.int p0), .val (.int x0), .val (.int x1), .val (.int x2), .val (.int (3 : Int32)), .val (.ref b1), .val (.ref b13), .val (.double (own_avg ((((0 : Int64) + (x0.toInt64)) + (x1.toInt64)) + (x2.toInt64)) (3 : Int32))), .second, .val (.long (((x0.toInt64) + (x1.toInt64)) + (x2.toInt64))), .second, .val (.long r_23), .second, .val (.long r_24), .second, .val (.double (own_avg ((((0 : Int64) + (x0.toInt64)) + (x1.toInt64)) + (x2.toInt64)) (3 : Int32))), .second, .val (.int (1 : Int32)), .val (.int (1 : Int32))] [(.int (1 : Int32))]) _
  refine own_st (fun t_ k_ => XS.ifNo X24.here hx rfl (hb hby at_219) rfl (by decide) k_) ?_
  show own_Go p e below T24 (mkF m 222 #[.val (.int p0), .val (.int x0), .val (.int x1), .val (.int x2), .val (.int (3 : Int32)), .val (.ref b1), .val (.ref b13), .val (.double (own_avg ((((0 : Int64) + (x0.toInt64)) + (x1.toInt64)) + (x2.toInt64)) (3 : Int32))), .second, .val (.long (((x0.toInt64) + (x1.toInt64)) + (x2.toInt64))), .second, .val (.long r_23), .second, .val (.long r_24), .second, .val (.double (own_avg ((((0 : Int64) + (x0.toInt64)) + (x1.toInt64)) + (x2.toInt64)) (3 : Int32))), .second, .val (.int (1 : Int32)), .val (.int (1 : Int32))] []) _
  refine own_st (fun t_ k_ => XS.iconst X24.here hx rfl (hb hby at_222) k_) ?_
  show own_Go p e below T24 (mkF m 223 #[.val (.int p0), .val (.int x0), .val (.int x1), .val (.int x2), .val (.int (3 : Int32)), .val (.ref b1), .val (.ref b13), .val (.double (own_avg ((((0 : Int64) + (x0.toInt64)) + (x1.toInt64)) + (x2.toInt64)) (3 : Int32))), .second, .val (.long (((x0.toInt64) + (x1.toInt64)) + (x2.toInt64))), .second, .val (.long r_23), .second, .val (.long r_24), .second, .val (.double (own_avg ((((0 : Int64) + (x0.toInt64)) + (x1.toInt64)) + (x2.toInt64)) (3 : Int32))), .second, .val (.int (1 : Int32)), .val (.int (1 : Int32))] [(.int (1 : Int32))]) _
  refine own_st (fun t_ k_ => XS.goto X24.here hx rfl (pc0 := 223) (pc' := 227) rfl (hb hby at_223) (by decide) (by decide) k_) ?_
  show own_Go p e below T24 (mkF m 227 #[.val (.int p0), .val (.int x0), .val (.int x1), .val (.int x2), .val (.int (3 : Int32)), .val (.ref b1), .val (.ref b13), .val (.double (own_avg ((((0 : Int64) + (x0.toInt64)) + (x1.toInt64)) + (x2.toInt64)) (3 : Int32))), .second, .val (.long (((x0.toInt64) + (x1.toInt64)) + (x2.toInt64))), .second, .val (.long r_23), .second, .val (.long r_24), .second, .val (.double (own_avg ((((0 : Int64) + (x0.toInt64)) + (x1.toInt64)) + (x2.toInt64)) (3 : Int32))), .second, .val (.int (1 : Int32)), .val (.int (1 : Int32))] [(.int (1 : Int32))]) _
  obtain ⟨fs, hr, hrun, hended, hW, hsame⟩ := X24.leave (v := some (.int (1 : Int32))) (fun h => by rw [Bd.returns] at h; cases h)
  refine own_fin (retN X24 hx (t := .boolean) Bd.returns (by simp) (hb hby at_227) hr) ⟨hrun, hended, _, _, rfl, ?_, ⟨_, rfl⟩, hW, hsame.mono (by decide) (by decide)⟩
  show Q_rmLaw3 Z p0 x0 x1 x2 h0 n0 _ T24.heap _
  rw [eH24]
  exact ⟨rfl, N24, K18⟩
theorem own_pre (p2 : Int32) : p2 &&& (3 : Int32) = (0 : Int32) ∨ p2 &&& (3 : Int32) = (1 : Int32) ∨ p2 &&& (3 : Int32) = (2 : Int32) ∨ p2 &&& (3 : Int32) = (3 : Int32) := by
  have h := c_and p2 3 (by decide)
  have e3 : (3 : Int32).toInt = 3 := rfl
  rw [e3] at h
  have h4 : (p2 &&& 3).toInt = 0 ∨ (p2 &&& 3).toInt = 1 ∨ (p2 &&& 3).toInt = 2 ∨ (p2 &&& 3).toInt = 3 := by omega
  rcases h4 with q | q | q | q
  · exact Or.inl (Int32.toInt_inj.mp q)
  · exact Or.inr (Or.inl (Int32.toInt_inj.mp q))
  · exact Or.inr (Or.inr (Or.inl (Int32.toInt_inj.mp q)))
  · exact Or.inr (Or.inr (Or.inr (Int32.toInt_inj.mp q)))
theorem rmLaw (l : Launch) (Z : State) (a0 : Array Value) (hw : ∀ d ∈ tables_1, d.before a0 Z = true) (ws : List Jvm.Cond) (p0 x0 x1 x2 : Int32) (h0 : Heap) (n0 : Nat) (Z0 : n0 ≤ h0.size) :
    MetFree l x (head1 (Jvm.Cond.code x code maxLocals ret :: ws) room_1) (fun a U => a = #[(.int p0), (.int x0), (.int x1), (.int x2)] ∧ Z.Warmed39 U.vm ∧ U.heap = h0) (fun _ _ _ _ _ => True) (fun _ U o U' => ∃ v L, o = .returned v ∧ (v = some (.int (1 : Int32)) ∧ Fr n0 L ∧ Keep h0 U'.heap []) ∧ FrameEnd U o U' L 16 128) := by
  rcases own_pre p0 with q | q | q | q
  · exact rmLaw0 l Z a0 hw ws p0 x0 x1 x2 h0 n0 Z0 q
  · exact rmLaw1 l Z a0 hw ws p0 x0 x1 x2 h0 n0 Z0 q
  · exact rmLaw2 l Z a0 hw ws p0 x0 x1 x2 h0 n0 Z0 q
  · exact rmLaw3 l Z a0 hw ws p0 x0 x1 x2 h0 n0 Z0 q
set_option maxRecDepth 65536 in
set_option maxHeartbeats 40000000 in
theorem comes_1 {Post : Tables → Env → Array Value → State → Outcome → State → Prop} (hpost : ∀ tb e args s v u, (limb_1_1.after args s (.returned v) u = true ∧ limb_1_2.after args s (.returned v) u = true ∧ True) → FrameEnd s (.returned v) u (Jvm.fieldLocs frame_1_writes args s ++ Jvm.arrayLocs frame_1_arrays args s ++ Jvm.staticLocs frame_1_statics s) 16 128 → Post tb e args s (.returned v) u) :
    ArmFor flags0 classFile x code maxLocals ret World_1 tables_1 room_1 Calls_1 rest_1 Pre_1 Post := by
  intro l hfl _ _ p e ha hc hk s m args below hf hA hF happ hP
  obtain ⟨hcalls, hrest, hpre⟩ := hP
  obtain ⟨-, -, -, hnamed, -, -, -, hat⟩ := (Spec.applies_iff hf).mp happ
  obtain ⟨hg, hn⟩ := and_e (Cond.before_iff.mp (show (Jvm.Cond.and given_1 narrow_1).before args s = true from hpre))
  obtain ⟨hc0, hg0⟩ := and_e hg
  obtain ⟨ga0, hg1⟩ := and_e hg0
  obtain ⟨ga1, hg2⟩ := and_e hg1
  obtain ⟨ga2, hg3⟩ := and_e hg2
  have ga3 := hg3
  obtain ⟨w0, w1, w2, w3, rfl⟩ : ∃ w0 w1 w2 w3 : Value, args = #[w0, w1, w2, w3] := by
    have hs : args.size = 4 := by simpa [Cond.value, given_1] using hc0
    obtain ⟨L⟩ := args
    match L, hs with
    | [w0, w1, w2, w3], _ => exact ⟨w0, w1, w2, w3, rfl⟩
  have hw := fun d (hd : d ∈ tables_1) => atoms_spec (ws := Jvm.Cond.code x code maxLocals ret :: tables_1) hat d (List.mem_cons_of_mem _ hd)
  have hfit : Fit s := fun {y c} hc i hi => by
    obtain ⟨ha, rfl⟩ := Array.getElem?_eq_some_iff.mp hc
    have q := List.all_eq_true.mp ((Array.all_eq_true_iff_forall_mem.mp hF) _ (Array.getElem_mem ha)) i (List.mem_range.mpr hi)
    simpa [Array.getElem?_eq_getElem hi] using q
  obtain ⟨i0, ei0⟩ := is_v ga0
  obtain rfl : w0 = (.int i0) := Option.some.inj ei0
  obtain ⟨i1, ei1⟩ := is_v ga1
  obtain rfl : w1 = (.int i1) := Option.some.inj ei1
  obtain ⟨i2, ei2⟩ := is_v ga2
  obtain rfl : w2 = (.int i2) := Option.some.inj ei2
  obtain ⟨i3, ei3⟩ := is_v ga3
  obtain rfl : w3 = (.int i3) := Option.some.inj ei3
  obtain ⟨n, o, h1, h2, h3, _, L, rfl, ⟨rfl, N, -⟩, hq⟩ := rmLaw l s _ hw tables_1 i0 i1 i2 i3 s.heap s.heap.size (Nat.le_refl _)  p e ha hc hk s m _ below hf ((Spec.applies_iff_loose hf).mp happ).1 ⟨rfl, State.Warmed39.refl s, rfl⟩ trivial
  refine ⟨n, _, h1, h2, h3, hpost _ _ _ _ _ _ ⟨Cond.after_iff.mpr rfl, Cond.after_iff.mpr (eq_i res_at (Term.int_eval (1)) rfl), trivial⟩ ⟨hq.1, hq.2.1, (hq.2.2.sift fun y hy => Or.inr (N y hy)).mono (by decide) (by decide)⟩⟩
theorem main_1_1 : Claimed_1_1 := comes_1 fun _ _ _ _ _ _ h hF => ⟨h.1, hF⟩
theorem main_1_2 : Claimed_1_2 := comes_1 fun _ _ _ _ _ _ h hF => ⟨h.2.1, hF⟩
end Jvm.Pilot.@@N@@
namespace Jvm.Pilot.@@N@@
open Jvm Jvm.ClassFile Sem Op Lib Jvm.Free Jvm.Stand Jvm.Pilot.@@N@@.Jvm.D
/-! MADE BY PROGRAM (witnessworld.py) out of the Statement's table words and the real class files: 10 classes; the members and pool entries that the words name. The judged class is class 1, her method 1. -/
namespace start1
open Jvm.ClassFile
def u (s : String) : CpInfo := .utf8 (stringToUtf16 s)
/-- a pool by its gaps: so many unusable entries, then the entry; so many at the end -/
def gap : Nat → List CpInfo → List CpInfo
  | 0, r => r
  | n + 1, r => .unusable :: gap n r
def poolList (es : List (Nat × CpInfo)) (last : Nat) : List CpInfo := es.foldr (fun e r => gap e.1 (e.2 :: r)) (gap last [])
def pool (es : List (Nat × CpInfo)) (last : Nat) : Array CpInfo := ⟨poolList es last⟩
def fileOf (pool : Array CpInfo) (this : Nat) (attrs : Array Attribute := #[]) (ms : Array MethodInfo := #[]) (fl : Nat := 33) (sup : Nat := 0) (ifs : Array Nat := #[]) (fds : Array FieldInfo := #[]) : ClassFile where
  minorVersion := 0
  majorVersion := 65
  constantPool := pool
  accessFlags := fl
  thisClass := this
  superClass := sup
  interfaces := ifs
  fields := fds
  methods := ms
  attributes := attrs
def plain (name : String) (sup : Option ClassId) : Class where
  name := name
  kind := .ordinary
  loader := none
  accessFlags := 33
  super := sup
  interfaces := #[]
  cf := none
  fields := #[]
  methods := #[]
  instanceTypes := #[]
  staticTypes := #[]
  resolved := #[]
  callSites := []
  init := .initialized
  statics := none
  mirror := none

def pool0 : Array CpInfo := pool [(5, u "<init>"), (0, u "()V"), (1, .class_ 10), (1, u "java/lang/Object")] 113

def k0c0 : Code := { maxStack := 0, maxLocals := 1, code := object_method_1_code, exceptionTable := #[], attributes := #[] }
def k0m0 : Method := { name := "<init>", desc := "()V", sig := { parameters := [], returnType := none }, accessFlags := 1, code := some k0c0 }
/-- java/lang/Object -/
def k0 : Class := { plain "java/lang/Object" none with
  accessFlags := 33
  interfaces := #[]
  cf := some (fileOf pool0 8 #[] #[{ accessFlags := 1, nameIndex := 5, descriptorIndex := 6, attributes := #[] }] 33 0 #[] #[])
  fields := #[]
  methods := #[k0m0]
  instanceTypes := #[]
  staticTypes := #[]
  resolved := Array.replicate 124 none
  statics := none }

def pool1 : Array CpInfo := pool [(2, .class_ 4), (1, u "java/lang/Object"), (0, u "<init>"), (0, u "()V"), (0, .class_ 8), (0, u "com/example/descriptor/descriptor/engine/index/InvertedField"), (0, .methodref 7 10), (0, .nameAndType 5 11), (0, u "([ILjava/util/Map;)V"), (0, .methodref 7 13), (0, .nameAndType 14 15), (0, u "averageLength"), (0, u "()D"), (0, .methodref 17 18), (0, .class_ 19), (0, .nameAndType 20 21), (0, u "java/lang/Math"), (0, u "min"), (0, u "(JJ)J"), (0, .methodref 17 23), (0, .nameAndType 24 21), (0, u "max"), (0, .class_ 26), (0, u "com/example/descriptor/descriptor/engine/index/InvertedFieldAverageLengthPinLaw"), (2, u "law"), (0, u "(IIII)Z")] 5

def k1m0 : Method := { name := "<init>", desc := "()V", sig := { parameters := [], returnType := none }, accessFlags := 1, code := none }
def k1c1 : Code := { maxStack := 4, maxLocals := 19, code := code, exceptionTable := #[], attributes := #[] }
def k1m1 : Method := { name := "law", desc := "(IIII)Z", sig := { parameters := [.int, .int, .int, .int], returnType := some .boolean }, accessFlags := 9, code := some k1c1 }
/-- com/example/descriptor/descriptor/engine/index/InvertedFieldAverageLengthPinLaw -/
def k1 : Class := { plain "com/example/descriptor/descriptor/engine/index/InvertedFieldAverageLengthPinLaw" (some 0) with
  accessFlags := 49
  interfaces := #[]
  cf := some (fileOf pool1 25 #[] #[{ accessFlags := 1, nameIndex := 5, descriptorIndex := 6, attributes := #[] }, { accessFlags := 9, nameIndex := 29, descriptorIndex := 30, attributes := #[] }] 49 2 #[] #[])
  fields := #[]
  methods := #[k1m0, k1m1]
  instanceTypes := #[]
  staticTypes := #[]
  resolved := Array.replicate 36 none
  statics := none }

def pool2 : Array CpInfo := pool [(1, .methodref 2 3), (0, .class_ 4), (0, .nameAndType 5 6), (0, u "java/lang/Object"), (0, u "<init>"), (0, u "()V"), (0, .fieldref 8 9), (0, .class_ 10), (0, .nameAndType 11 12), (0, u "com/example/descriptor/descriptor/engine/index/InvertedField"), (0, u "lengths"), (0, u "[I"), (0, .fieldref 8 14), (0, .nameAndType 15 16), (0, u "postings"), (0, u "Ljava/util/Map;"), (0, .fieldref 8 18), (0, .nameAndType 19 20), (0, u "totalLength"), (0, u "J"), (14, u "([ILjava/util/Map;)V"), (9, u "averageLength"), (0, u "()D")] 7

def k2c0 : Code := { maxStack := 4, maxLocals := 9, code := prog_17_method_1_code, exceptionTable := #[], attributes := #[] }
def k2m0 : Method := { name := "<init>", desc := "([ILjava/util/Map;)V", sig := { parameters := [(.array .int), (.object "java/util/Map")], returnType := none }, accessFlags := 0, code := some k2c0 }
def k2c1 : Code := { maxStack := 4, maxLocals := 1, code := prog_17_method_5_code, exceptionTable := #[], attributes := #[] }
def k2m1 : Method := { name := "averageLength", desc := "()D", sig := { parameters := [], returnType := some .double }, accessFlags := 1, code := some k2c1 }
/-- com/example/descriptor/descriptor/engine/index/InvertedField -/
def k2 : Class := { plain "com/example/descriptor/descriptor/engine/index/InvertedField" (some 0) with
  accessFlags := 33
  interfaces := #[]
  cf := some (fileOf pool2 8 #[] #[{ accessFlags := 0, nameIndex := 5, descriptorIndex := 35, attributes := #[] }, { accessFlags := 1, nameIndex := 45, descriptorIndex := 46, attributes := #[] }] 33 2 #[] #[{ accessFlags := 18, nameIndex := 11, descriptorIndex := 12, attributes := #[] }, { accessFlags := 18, nameIndex := 15, descriptorIndex := 16, attributes := #[] }, { accessFlags := 18, nameIndex := 19, descriptorIndex := 20, attributes := #[] }])
  fields := #[{ name := "lengths", type := (.array .int), accessFlags := 18, slot := 0, constantValue := 0 }, { name := "postings", type := (.object "java/util/Map"), accessFlags := 18, slot := 1, constantValue := 0 }, { name := "totalLength", type := .long, accessFlags := 18, slot := 2, constantValue := 0 }]
  methods := #[k2m0, k2m1]
  instanceTypes := #[(.array .int), (.object "java/util/Map"), .long]
  staticTypes := #[]
  resolved := Array.replicate 54 none
  statics := none }

def pool3 : Array CpInfo := pool [(1, .class_ 2), (0, u "java/lang/Math"), (1, .class_ 6), (1, u "java/lang/Object"), (0, u "<init>"), (0, u "()V"), (89, .class_ 100), (1, u "java/lang/Math$RandomNumberGeneratorHolder"), (20, u "(JJ)J"), (50, u "negativeZeroFloatBits"), (0, u "J"), (2, u "negativeZeroDoubleBits"), (21, u "max"), (2, u "min"), (43, u "$assertionsDisabled"), (0, u "Z"), (91, u "twoToTheDoubleScaleDown"), (0, u "D"), (4, u "twoToTheDoubleScaleUp"), (9, u "E"), (3, u "PI"), (2, u "TAU"), (2, u "DEGREES_TO_RADIANS"), (0, u "RADIANS_TO_DEGREES")] 94

def k3m0 : Method := { name := "<init>", desc := "()V", sig := { parameters := [], returnType := none }, accessFlags := 2, code := none }
def k3c1 : Code := { maxStack := 4, maxLocals := 4, code := jdk_29_method_66_code, exceptionTable := #[], attributes := #[] }
def k3m1 : Method := { name := "max", desc := "(JJ)J", sig := { parameters := [.long, .long], returnType := some .long }, accessFlags := 9, code := some k3c1 }
def k3c2 : Code := { maxStack := 4, maxLocals := 4, code := jdk_29_method_70_code, exceptionTable := #[], attributes := #[] }
def k3m2 : Method := { name := "min", desc := "(JJ)J", sig := { parameters := [.long, .long], returnType := some .long }, accessFlags := 9, code := some k3c2 }
/-- java/lang/Math -/
def k3 : Class := { plain "java/lang/Math" (some 0) with
  accessFlags := 49
  interfaces := #[]
  cf := some (fileOf pool3 1 #[.nestMembers #[98]] #[{ accessFlags := 2, nameIndex := 7, descriptorIndex := 8, attributes := #[] }, { accessFlags := 9, nameIndex := 198, descriptorIndex := 121, attributes := #[] }, { accessFlags := 9, nameIndex := 201, descriptorIndex := 121, attributes := #[] }] 49 4 #[] #[{ accessFlags := 25, nameIndex := 354, descriptorIndex := 339, attributes := #[] }, { accessFlags := 25, nameIndex := 358, descriptorIndex := 339, attributes := #[] }, { accessFlags := 25, nameIndex := 361, descriptorIndex := 339, attributes := #[] }, { accessFlags := 26, nameIndex := 364, descriptorIndex := 339, attributes := #[] }, { accessFlags := 26, nameIndex := 365, descriptorIndex := 339, attributes := #[] }, { accessFlags := 26, nameIndex := 172, descriptorIndex := 173, attributes := #[] }, { accessFlags := 26, nameIndex := 176, descriptorIndex := 173, attributes := #[] }, { accessFlags := 8, nameIndex := 344, descriptorIndex := 339, attributes := #[] }, { accessFlags := 8, nameIndex := 338, descriptorIndex := 339, attributes := #[] }, { accessFlags := 4120, nameIndex := 245, descriptorIndex := 246, attributes := #[] }])
  fields := #[{ name := "E", type := .double, accessFlags := 25, slot := 0, constantValue := 0 }, { name := "PI", type := .double, accessFlags := 25, slot := 1, constantValue := 0 }, { name := "TAU", type := .double, accessFlags := 25, slot := 2, constantValue := 0 }, { name := "DEGREES_TO_RADIANS", type := .double, accessFlags := 26, slot := 3, constantValue := 0 }, { name := "RADIANS_TO_DEGREES", type := .double, accessFlags := 26, slot := 4, constantValue := 0 }, { name := "negativeZeroFloatBits", type := .long, accessFlags := 26, slot := 5, constantValue := 0 }, { name := "negativeZeroDoubleBits", type := .long, accessFlags := 26, slot := 6, constantValue := 0 }, { name := "twoToTheDoubleScaleUp", type := .double, accessFlags := 8, slot := 7, constantValue := 0 }, { name := "twoToTheDoubleScaleDown", type := .double, accessFlags := 8, slot := 8, constantValue := 0 }, { name := "$assertionsDisabled", type := .boolean, accessFlags := 4120, slot := 9, constantValue := 0 }]
  methods := #[k3m0, k3m1, k3m2]
  instanceTypes := #[]
  staticTypes := #[.double, .double, .double, .double, .double, .long, .long, .double, .double, .boolean]
  resolved := Array.replicate 460 none
  statics := none }

def pool4 : Array CpInfo := pool [(1, u "java/lang/Cloneable"), (0, .class_ 1), (0, u "java/lang/Object"), (0, .class_ 3)] 3

/-- java/lang/Cloneable -/
def k4 : Class := { plain "java/lang/Cloneable" (some 0) with
  accessFlags := 1537
  interfaces := #[]
  cf := some (fileOf pool4 2 #[] #[] 1537 4 #[] #[])
  fields := #[]
  methods := #[]
  instanceTypes := #[]
  staticTypes := #[]
  resolved := Array.replicate 8 none
  statics := none }

def pool5 : Array CpInfo := pool [(1, u "java/io/Serializable"), (0, .class_ 1), (0, u "java/lang/Object"), (0, .class_ 3)] 3

/-- java/io/Serializable -/
def k5 : Class := { plain "java/io/Serializable" (some 0) with
  accessFlags := 1537
  interfaces := #[]
  cf := some (fileOf pool5 2 #[] #[] 1537 4 #[] #[])
  fields := #[]
  methods := #[]
  instanceTypes := #[]
  staticTypes := #[]
  resolved := Array.replicate 8 none
  statics := none }

/-- the primitive byte -/
def k6 : Class := { plain "byte" none with kind := .primitive 'B', accessFlags := 0x411 }
/-- [B -/
def k7 : Class := { plain "[B" (some 0) with kind := .array 6 .byte, interfaces := #[4, 5], accessFlags := 1041 }

/-- the primitive int -/
def k8 : Class := { plain "int" none with kind := .primitive 'I', accessFlags := 0x411 }
/-- [I -/
def k9 : Class := { plain "[I" (some 0) with kind := .array 8 .int, interfaces := #[4, 5], accessFlags := 1041 }

def heap : Heap := #[]
def classes : Array Class := #[k0, k1, k2, k3, k4, k5, k6, k7, k8, k9]
def interned : List (Array UInt16 × Addr) := []
def slotsUsed : Nat := 0
def theMethod : MethodId := ⟨1, 1⟩
def args0 : Array Value := #[.int 5, .int 300, .int 7, .int 8]
def aboutOver (below : List Frame) : State where
  vm := { classes := classes, interned := interned.toArray }
  heap := heap
  slotsUsed := slotsUsed
  threads := #[{ frames := .invoking theMethod args0 :: below }]
def below0 : List Frame := [.native { method := ⟨0, 0⟩, args := #[] }]
def about1 : State := aboutOver below0
def p0 : Program := .bare "" "" ""
def e0 : Env := launch0.env 0 0 0
theorem w_frames : about1.frames = Frame.invoking theMethod args0 :: below0 := rfl
set_option maxRecDepth 65536 in
theorem w_args : argsFit about1.vm theMethod args0 = true := by decide +kernel
set_option maxRecDepth 65536 in
theorem w_heap : heapFits about1 = true := by decide +kernel
set_option maxRecDepth 65536 in
theorem w_runnable : about1.curStatus? = some .runnable := by decide +kernel
set_option maxRecDepth 65536 in
theorem w_alone : about1.alone = true := by decide +kernel
set_option maxRecDepth 65536 in
theorem w_named : about1.methodNamed? x = some theMethod := by decide +kernel
set_option maxRecDepth 65536 in
theorem w_hears : about1.hears theMethod below0 = true := by decide +kernel
set_option maxRecDepth 65536 in
theorem w_ripe : about1.ripe theMethod args0 below0 = true := by decide +kernel
theorem w_running : about1.status = .running := rfl
set_option maxRecDepth 65536 in
theorem w_room : about1.hasRoom e0.platform room_1 = true :=
  launch0.hasRoom_least _ room_1 (by decide +kernel) (by decide +kernel) (by decide +kernel) (by decide +kernel) (by decide +kernel) (by decide +kernel)
theorem allAtoms_all (ts : List Jvm.Cond) (a : Array Jvm.Value) (st : Jvm.State) : (allAtoms ts).before a st = ts.all (fun c => c.before a st) := by
  induction ts with
  | nil => rfl
  | cons c t ih =>
    show (Jvm.Cond.and c (allAtoms t)).before a st = _
    rw [Jvm.Cond.before_and, ih, List.all_cons]
def words1 : List Jvm.Cond := Jvm.Cond.code x code maxLocals ret :: tables_1
/-- a 'code' word, met by the world's own term for the bytes: nothing is compared byte by byte -/
theorem code_word {y : MethodName} {bytes : ByteArray} {mx : Nat} {rt : Option FieldType} {a : Array Value} {s : State} {m : MethodId} {meth : Method} {c : Code} (h1 : s.methodNamed? y = some m) (h2 : s.vm.method? m = some meth) (h3 : meth.code = some c) (h4 : c.code = bytes)
    (h5 : (c.maxLocals == mx && c.exceptionTable.isEmpty && decide (c.maxStack ≤ mostOperands) && decide (meth.sig.returnType = rt) && !meth.locks && decide (parseMethodDescriptor y.desc = some meth.sig)) = true) : (Jvm.Cond.code y bytes mx rt).before a s = true := by
  simp only [Bool.and_eq_true, beq_iff_eq, Bool.not_eq_true', decide_eq_true_eq] at h5
  obtain ⟨⟨⟨⟨⟨g1, g2⟩, g3⟩, g4⟩, g5⟩, g6⟩ := h5
  simp [Cond.before, Cond.holds, Cond.value, h1, h2, h3, h4, g1, g2, g3, g4, g5, g6]
def isCode : Jvm.Cond → Bool
  | .code _ _ _ _ => true
  | _ => false
theorem all_split {L : List Jvm.Cond} {P : Jvm.Cond → Bool} (h1 : L.all (fun c => isCode c || P c) = true) (h2 : ∀ c ∈ L.filter isCode, P c = true) : L.all P = true := by
  refine List.all_eq_true.mpr fun c hc => ?_
  have h := List.all_eq_true.mp h1 c hc
  rcases Bool.eq_false_or_eq_true (isCode c) with hi | hi
  · exact h2 c (List.mem_filter.mpr ⟨hc, hi⟩)
  · simpa [hi] using h
set_option maxRecDepth 65536 in
theorem w_c0 : (Jvm.Cond.code x code maxLocals ret).before args0 about1 = true := code_word (m := ⟨1, 1⟩) (meth := k1m1) (c := k1c1) (by decide +kernel) rfl rfl rfl (by decide +kernel)
set_option maxRecDepth 65536 in
theorem w_c1 : (Jvm.Cond.code ({ cls := "com/example/descriptor/descriptor/engine/index/InvertedField", name := "<init>", desc := "([ILjava/util/Map;)V" } : Jvm.MethodName) prog_17_method_1_code (9 : Nat) (Option.none : Option Jvm.ClassFile.FieldType)).before args0 about1 = true := code_word (m := ⟨2, 0⟩) (meth := k2m0) (c := k2c0) (by decide +kernel) rfl rfl rfl (by decide +kernel)
set_option maxRecDepth 65536 in
theorem w_c2 : (Jvm.Cond.code ({ cls := "java/lang/Object", name := "<init>", desc := "()V" } : Jvm.MethodName) object_method_1_code (1 : Nat) (Option.none : Option Jvm.ClassFile.FieldType)).before args0 about1 = true := code_word (m := ⟨0, 0⟩) (meth := k0m0) (c := k0c0) (by decide +kernel) rfl rfl rfl (by decide +kernel)
set_option maxRecDepth 65536 in
theorem w_c3 : (Jvm.Cond.code ({ cls := "com/example/descriptor/descriptor/engine/index/InvertedField", name := "averageLength", desc := "()D" } : Jvm.MethodName) prog_17_method_5_code (1 : Nat) (Option.some Jvm.ClassFile.FieldType.double)).before args0 about1 = true := code_word (m := ⟨2, 1⟩) (meth := k2m1) (c := k2c1) (by decide +kernel) rfl rfl rfl (by decide +kernel)
set_option maxRecDepth 65536 in
theorem w_c4 : (Jvm.Cond.code ({ cls := "java/lang/Math", name := "min", desc := "(JJ)J" } : Jvm.MethodName) jdk_29_method_70_code (4 : Nat) (Option.some Jvm.ClassFile.FieldType.long)).before args0 about1 = true := code_word (m := ⟨3, 2⟩) (meth := k3m2) (c := k3c2) (by decide +kernel) rfl rfl rfl (by decide +kernel)
set_option maxRecDepth 65536 in
theorem w_c5 : (Jvm.Cond.code ({ cls := "java/lang/Math", name := "max", desc := "(JJ)J" } : Jvm.MethodName) jdk_29_method_66_code (4 : Nat) (Option.some Jvm.ClassFile.FieldType.long)).before args0 about1 = true := code_word (m := ⟨3, 1⟩) (meth := k3m1) (c := k3c1) (by decide +kernel) rfl rfl rfl (by decide +kernel)
def codes1 : List Jvm.Cond := [Jvm.Cond.code x code maxLocals ret, Jvm.Cond.code ({ cls := "com/example/descriptor/descriptor/engine/index/InvertedField", name := "<init>", desc := "([ILjava/util/Map;)V" } : Jvm.MethodName) prog_17_method_1_code (9 : Nat) (Option.none : Option Jvm.ClassFile.FieldType), Jvm.Cond.code ({ cls := "java/lang/Object", name := "<init>", desc := "()V" } : Jvm.MethodName) object_method_1_code (1 : Nat) (Option.none : Option Jvm.ClassFile.FieldType), Jvm.Cond.code ({ cls := "com/example/descriptor/descriptor/engine/index/InvertedField", name := "averageLength", desc := "()D" } : Jvm.MethodName) prog_17_method_5_code (1 : Nat) (Option.some Jvm.ClassFile.FieldType.double), Jvm.Cond.code ({ cls := "java/lang/Math", name := "min", desc := "(JJ)J" } : Jvm.MethodName) jdk_29_method_70_code (4 : Nat) (Option.some Jvm.ClassFile.FieldType.long), Jvm.Cond.code ({ cls := "java/lang/Math", name := "max", desc := "(JJ)J" } : Jvm.MethodName) jdk_29_method_66_code (4 : Nat) (Option.some Jvm.ClassFile.FieldType.long)]
set_option maxRecDepth 65536 in
theorem codes_eq : words1.filter isCode = codes1 := rfl
theorem w_codes : ∀ c ∈ words1.filter isCode, c.before args0 about1 = true := by
  rw [codes_eq]
  intro c hc
  simp only [codes1, List.mem_cons, List.not_mem_nil, or_false] at hc
  rcases hc with rfl | rfl | rfl | rfl | rfl | rfl
  · exact w_c0
  · exact w_c1
  · exact w_c2
  · exact w_c3
  · exact w_c4
  · exact w_c5
set_option maxRecDepth 65536 in
theorem w_t1 : (words1.take 24).all (fun c => isCode c || c.before args0 about1) = true := by decide +kernel
set_option maxRecDepth 65536 in
theorem w_t2 : (words1.drop 24).all (fun c => isCode c || c.before args0 about1) = true := by decide +kernel
theorem w_tables : (allAtoms (Jvm.Cond.code x code maxLocals ret :: tables_1)).before args0 about1 = true := by
  rw [allAtoms_all]
  show words1.all (fun c => c.before args0 about1) = true
  refine all_split ?_ w_codes
  rw [← List.take_append_drop 24 words1, List.all_append, w_t1, w_t2]
  rfl
set_option maxRecDepth 65536 in
theorem w_case : (Jvm.Cond.and given_1 narrow_1).before args0 about1 = true := by decide +kernel
theorem w_applies : (headSpec (Jvm.Cond.code x code maxLocals ret :: tables_1) room_1).applies x e0.platform about1 = true :=
  (Spec.applies_iff w_frames).mpr ⟨w_running, w_runnable, w_alone, w_named, w_hears, w_ripe, w_room, w_tables⟩
theorem atStart : AtStart classFile x code maxLocals ret World_1 tables_1 room_1 Calls_1 rest_1 Pre_1 launch0 p0 e0 about1 theMethod args0 below0 :=
  ⟨lists_1, trivial, launch0.admits_env _ _ _, launch0.least_env, fairChoices_fair.cas, fairChoices_fair.clock, w_frames, w_args, w_heap, w_applies, trivial, trivial, w_case⟩
end start1
theorem witness_1 : WitnessClaimed_1 := ⟨start1.p0, start1.e0, start1.about1, start1.theMethod, start1.args0, start1.below0, start1.atStart⟩
end Jvm.Pilot.@@N@@
