import JvmDerived
import JvmDerived.Pilot.@@N@@Statement
import JvmDerived.Pilot.@@N@@Code
set_option linter.unusedVariables false
set_option linter.unusedSimpArgs false
namespace Jvm.Pilot.@@N@@
open Jvm Jvm.ClassFile Sem Op Lib Jvm.Free Jvm.Stand Jvm.LawKit Jvm.RoadKit Bundle Jvm.Pilot.@@N@@.Jvm.D
/-- the run goes on from here to an end at which K holds -/
def own_Go (p : Program) (e : Env) (below : List Frame) (T : State) (g : JFrame) (K : State → Outcome → Prop) : Prop := ∃ s₂ o, Steps p.tables e below (T.setTop g) s₂ ∧ K s₂ o
section OwnGo
variable {p : Program} {l : Launch} {e : Env} {R : Room} {s : State} {m : MethodId} {args : Array Value} {below : List Frame} {meth : Method} {c : Code} {T T' s₂ : State} {o : Outcome} {locs : List Loc} {cells slots : Nat} {g g' : JFrame} {K : State → Outcome → Prop}
theorem own_enter (q : g = g') (k : own_Go p e below T g' K) : ∃ s₂ o, Steps p.tables e below (T.setTop g) s₂ ∧ K s₂ o := by subst q; exact k
theorem own_st (h : ∀ t, Steps p.tables e below (T'.setTop g') t → Steps p.tables e below (T.setTop g) t) (k : own_Go p e below T' g' K) : own_Go p e below T g K := by
  obtain ⟨s2, o, h1, h2⟩ := k
  exact ⟨s2, o, h _ h1, h2⟩
theorem own_tr (h : Steps p.tables e below (T.setTop g) (T'.setTop g')) (k : own_Go p e below T' g' K) : own_Go p e below T g K := own_st (fun _ q => h.trans q) k
theorem own_fin (h : Steps p.tables e below (T.setTop g) s₂) (k : K s₂ o) : own_Go p e below T g K := ⟨s₂, o, h, k⟩
theorem own_retI (X : Stand p l e R s m args below meth c T locs cells slots) (hx : p.tables.exec = Jvm.exec) {pc : Nat} {Ls : Array Slot} {z : Int32} {rest : List Value} (hret : meth.sig.returnType = some .int) (hd : decode c.code pc = .ok (.ireturn, 1)) {fs : List Frame}
    (hl : ∀ (f : JFrame) (acts : List Action), f.method = m → f.locked = none → f.entered = [] → (doReturn e (T.setTop f) acts (some (.int z))).1 = T.setFrames fs) : Steps p.tables e below (T.setTop (mkF m pc Ls (.int z :: rest))) (T.setFrames fs) := by
  have hm' : T.vm.method? m = some meth := X.method'
  have hn : narrow .int (.int z) = .int z := rfl
  show Steps p.tables e below (T.setTop { method := m, pc := pc, locals := Ls, stack := _ :: rest, locked := none }) _
  jvm_step X.here [X.here.top, hx, hd, hm', hret, hn]
  first | (intro acts; rw [hl _ acts rfl rfl rfl]) | rw [hl _ _ rfl rfl rfl]
  exact Steps.refl _
theorem own_retD (X : Stand p l e R s m args below meth c T locs cells slots) (hx : p.tables.exec = Jvm.exec) {pc : Nat} {Ls : Array Slot} {z : UInt64} {rest : List Value} (hret : meth.sig.returnType = some .double) (hd : decode c.code pc = .ok (.dreturn, 1)) {fs : List Frame}
    (hl : ∀ (f : JFrame) (acts : List Action), f.method = m → f.locked = none → f.entered = [] → (doReturn e (T.setTop f) acts (some (.double z))).1 = T.setFrames fs) : Steps p.tables e below (T.setTop (mkF m pc Ls (.double z :: rest))) (T.setFrames fs) := by
  have hm' : T.vm.method? m = some meth := X.method'
  have hn : narrow .double (.double z) = .double z := rfl
  show Steps p.tables e below (T.setTop { method := m, pc := pc, locals := Ls, stack := _ :: rest, locked := none }) _
  jvm_step X.here [X.here.top, hx, hd, hm', hret, hn]
  first | (intro acts; rw [hl _ acts rfl rfl rfl]) | rw [hl _ _ rfl rfl rfl]
  exact Steps.refl _
theorem own_retL (X : Stand p l e R s m args below meth c T locs cells slots) (hx : p.tables.exec = Jvm.exec) {pc : Nat} {Ls : Array Slot} {z : Int64} {rest : List Value} (hret : meth.sig.returnType = some .long) (hd : decode c.code pc = .ok (.lreturn, 1)) {fs : List Frame}
    (hl : ∀ (f : JFrame) (acts : List Action), f.method = m → f.locked = none → f.entered = [] → (doReturn e (T.setTop f) acts (some (.long z))).1 = T.setFrames fs) : Steps p.tables e below (T.setTop (mkF m pc Ls (.long z :: rest))) (T.setFrames fs) := by
  have hm' : T.vm.method? m = some meth := X.method'
  have hn : narrow .long (.long z) = .long z := rfl
  show Steps p.tables e below (T.setTop { method := m, pc := pc, locals := Ls, stack := _ :: rest, locked := none }) _
  jvm_step X.here [X.here.top, hx, hd, hm', hret, hn]
  first | (intro acts; rw [hl _ acts rfl rfl rfl]) | rw [hl _ _ rfl rfl rfl]
  exact Steps.refl _
theorem own_retR (X : Stand p l e R s m args below meth c T locs cells slots) (hx : p.tables.exec = Jvm.exec) {pc : Nat} {Ls : Array Slot} {z : Value} {t : FieldType} {rest : List Value} (hz : z.isRef = true) (hret : meth.sig.returnType = some t) (ht : t.isReference = true) (hd : decode c.code pc = .ok (.areturn, 1)) {fs : List Frame}
    (hl : ∀ (f : JFrame) (acts : List Action), f.method = m → f.locked = none → f.entered = [] → (doReturn e (T.setTop f) acts (some z)).1 = T.setFrames fs) : Steps p.tables e below (T.setTop (mkF m pc Ls (z :: rest))) (T.setFrames fs) := by
  have hm' : T.vm.method? m = some meth := X.method'
  show Steps p.tables e below (T.setTop { method := m, pc := pc, locals := Ls, stack := _ :: rest, locked := none }) _
  jvm_step X.here [X.here.top, hx, hd, hm', hret, hz, ht]
  first | (intro acts; rw [hl _ acts rfl rfl rfl]) | rw [hl _ _ rfl rfl rfl]
  exact Steps.refl _
end OwnGo
section OwnFloats
open Jvm.FP.Core
theorem own_qmin64 : b64.qmin = -1074 := by decide +kernel
theorem own_zfin {s : Bool} {C : Nat} {q : Int} : zmag b64 (.fin s C q) = C * 2 ^ (q - b64.qmin).toNat := rfl
/-- a quotient is at most V, if the dividend is at most V times the divisor (all in units) -/
theorem own_div_units {C D zV : Nat} {q r e0 : Int} (hq : b64.qmin ≤ q) (hr : b64.qmin ≤ r) (h0 : e0 ≤ b64.qmin) (h1 : e0 ≤ q - r) :
    C * 2 ^ (q - r - e0).toNat * 2 ^ (r - b64.qmin).toNat = C * 2 ^ (q - b64.qmin).toNat * 2 ^ (-b64.qmin).toNat * 2 ^ (b64.qmin - e0).toNat := by
  have hm := own_qmin64
  rw [Nat.mul_assoc, ← Nat.pow_add, Nat.mul_assoc, Nat.mul_assoc, ← Nat.pow_add, ← Nat.pow_add]
  congr 2
  omega
theorem own_div_le {a b V : UInt64} {s t : Bool} {C D : Nat} {q r : Int} (ha : val64 a = .fin s C q) (hb : val64 b = .fin t D r) (hD : D ≠ 0) (hV : val64 V ≠ .nan)
    (h : zmag b64 (val64 a) * one64 ≤ zmag b64 (val64 V) * zmag b64 (val64 b)) : zmag b64 (val64 (ddiv a b)) ≤ zmag b64 (val64 V) := by
  have fa := val64_fits a
  have fb := val64_fits b
  rw [ha] at fa
  rw [hb] at fb
  rw [val64_ddiv, ha, hb]
  show zmag b64 (if D = 0 then _ else roundRatio b64 (s != t) C D (q - r)) ≤ _
  rw [if_neg hD]
  have hm := own_qmin64
  obtain ⟨e0, he⟩ : ∃ e0, e0 = min b64.qmin (q - r) := ⟨_, rfl⟩
  have h0 : e0 ≤ b64.qmin := by omega
  have h1 : e0 ≤ q - r := by omega
  refine zmag_roundRatio_le good_b64 (Nat.pos_of_ne_zero hD) (val64_fits V) hV h0 h1 ?_
  rw [ha, hb, own_zfin, own_zfin, ← pow_qmin64] at h
  have e := own_div_units (C := C) (D := D) (zV := 0) fa.2.1 fb.2.1 h0 h1
  unfold inUnits
  refine Nat.le_of_mul_le_mul_right (c := 2 ^ (r - b64.qmin).toNat) ?_ (Nat.two_pow_pos _)
  rw [e]
  have h2 := Nat.mul_le_mul_right (2 ^ (b64.qmin - e0).toNat) h
  refine Nat.le_trans h2 (Nat.le_of_eq ?_)
  generalize zmag b64 (val64 V) = zV
  generalize 2 ^ (r - b64.qmin).toNat = X
  generalize 2 ^ (b64.qmin - e0).toNat = Y
  ac_rfl
theorem own_div_ge {a b V : UInt64} {s t : Bool} {C D : Nat} {q r : Int} (ha : val64 a = .fin s C q) (hb : val64 b = .fin t D r) (hD : D ≠ 0)
    (h : zmag b64 (val64 V) * zmag b64 (val64 b) ≤ zmag b64 (val64 a) * one64) : zmag b64 (val64 V) ≤ zmag b64 (val64 (ddiv a b)) := by
  have fa := val64_fits a
  have fb := val64_fits b
  rw [ha] at fa
  rw [hb] at fb
  rw [val64_ddiv, ha, hb]
  show _ ≤ zmag b64 (if D = 0 then _ else roundRatio b64 (s != t) C D (q - r))
  rw [if_neg hD]
  have hm := own_qmin64
  obtain ⟨e0, he⟩ : ∃ e0, e0 = min b64.qmin (q - r) := ⟨_, rfl⟩
  have h0 : e0 ≤ b64.qmin := by omega
  have h1 : e0 ≤ q - r := by omega
  refine zmag_roundRatio_ge good_b64 (Nat.pos_of_ne_zero hD) (val64_fits V) h0 h1 ?_
  rw [ha, hb, own_zfin, own_zfin, ← pow_qmin64] at h
  have e := own_div_units (C := C) (D := D) (zV := 0) fa.2.1 fb.2.1 h0 h1
  unfold inUnits
  refine Nat.le_of_mul_le_mul_right (c := 2 ^ (r - b64.qmin).toNat) ?_ (Nat.two_pow_pos _)
  rw [e]
  have h2 := Nat.mul_le_mul_right (2 ^ (b64.qmin - e0).toNat) h
  refine Nat.le_trans (Nat.le_of_eq ?_) h2
  generalize zmag b64 (val64 V) = zV
  generalize 2 ^ (r - b64.qmin).toNat = X
  generalize 2 ^ (b64.qmin - e0).toNat = Y
  ac_rfl
/-- rounding whole numbers keeps their order -/
theorem own_round_mono {A B c d : Nat} {q r : Int} (h : A ≤ B) (hA : roundRatio b64 false A 1 0 = .fin false c q) (hB : roundRatio b64 false B 1 0 = .fin false d r) :
    zmag b64 (roundRatio b64 false A 1 0) ≤ zmag b64 (roundRatio b64 false B 1 0) := by
  have fA := roundRatio_fits good_b64 false A (B := 1) (by decide) 0
  have fB := roundRatio_fits good_b64 false B (B := 1) (by decide) 0
  have hm := own_qmin64
  rw [hA] at fA
  rw [hB] at fB
  have d1 := roundRatio_nearest good_b64 (by decide) hA fB.1 fB.2.1 (e0 := b64.qmin) (Int.le_refl _) (by omega)
  have d2 := roundRatio_nearest good_b64 (by decide) hB fA.1 fA.2.1 (e0 := b64.qmin) (Int.le_refl _) (by omega)
  rw [hA, hB]
  show inUnits c q b64.qmin ≤ inUnits d r b64.qmin
  unfold distance at d1 d2
  have hx : inUnits A 0 b64.qmin ≤ inUnits B 0 b64.qmin := Nat.mul_le_mul_right _ h
  have hxe : inUnits A 0 b64.qmin = inUnits B 0 b64.qmin → A = B := fun e => Nat.eq_of_mul_eq_mul_right (Nat.two_pow_pos _) e
  refine Nat.le_of_not_lt fun hlt => ?_
  have hAB : A = B := hxe (by
    generalize inUnits A 0 b64.qmin = x at *
    generalize inUnits B 0 b64.qmin = y at *
    generalize inUnits c q b64.qmin = u at *
    generalize inUnits d r b64.qmin = v at *
    omega)
  subst hAB
  have := hA.symm.trans hB
  cases this
  exact absurd hlt (Nat.lt_irrefl _)
theorem own_val_l2d {a : Int64} (h : 0 ≤ a.toInt) : ∃ c q, val64 (l2d a) = .fin false c q ∧ val64 (l2d a) = roundRatio b64 false a.toInt.natAbs 1 0 := by
  obtain ⟨c, q, e⟩ := l2d_shape a
  have hs : decide (a.toInt < 0) = false := by simp; omega
  rw [hs] at e
  refine ⟨c, q, e, ?_⟩
  rw [val64_l2d]
  show roundRatio b64 (decide (a.toInt < 0)) a.toInt.natAbs 1 0 = _
  rw [hs]
theorem own_l2d_mono {a b : Int64} (h0 : 0 ≤ a.toInt) (h : a.toInt ≤ b.toInt) : zmag b64 (val64 (l2d a)) ≤ zmag b64 (val64 (l2d b)) := by
  obtain ⟨c, q, e1, e2⟩ := own_val_l2d h0
  obtain ⟨d, r, e3, e4⟩ := own_val_l2d (a := b) (by omega)
  rw [e2, e4]
  exact own_round_mono (by omega) (e2.symm.trans e1) (e4.symm.trans e3)
theorem own_sgn_div {a b : UInt64} {s t : Bool} {C D : Nat} {q r : Int} (ha : val64 a = .fin s C q) (hb : val64 b = .fin t D r) (hD : D ≠ 0) : sgn (val64 (ddiv a b)) = (s != t) := by
  rw [val64_ddiv, ha, hb]
  show sgn (if D = 0 then _ else roundRatio b64 (s != t) C D (q - r)) = _
  rw [if_neg hD, sgn_roundRatio]
theorem own_div_nn {a b : UInt64} {s t : Bool} {C D : Nat} {q r : Int} (ha : val64 a = .fin s C q) (hb : val64 b = .fin t D r) (hD : D ≠ 0) : val64 (ddiv a b) ≠ .nan := by
  rw [val64_ddiv, ha, hb]
  show (if D = 0 then _ else roundRatio b64 (s != t) C D (q - r)) ≠ _
  rw [if_neg hD]
  exact roundRatio_ne_nan _ _ _ _ _
theorem own_one_nn : val64 dconst1 ≠ .nan := by decide +kernel
theorem own_one_zmag : zmag b64 (val64 dconst1) = one64 := by decide +kernel
theorem own_zero_nn : val64 dconst0 ≠ .nan := by decide +kernel
theorem own_zero_zmag : zmag b64 (val64 dconst0) = 0 := by decide +kernel
end OwnFloats
section OwnQ
open Jvm.FP.Core
theorem own_pos_fin {t : Int64} (ht : 0 < t.toInt) : ∃ D r, val64 (l2d t) = .fin false D r ∧ D ≠ 0 := by
  obtain ⟨D, r, e, -⟩ := own_val_l2d (a := t) (by omega)
  refine ⟨D, r, e, fun h => ?_⟩
  subst h
  have hz := l2d_ne_zero (v := t) (fun q => by rw [q] at ht; exact absurd ht (by decide))
  have : zval b64 (val64 (l2d t)) = 0 := by rw [e]; simp [zval, zmag, FP.Core.sgn, signed, inUnits]
  exact hz ((zval_eq_zero (by rw [e]; exact Datum.noConfusion)).mp this)
theorem own_q_nn {c t : Int64} (hc : 0 ≤ c.toInt) (ht : 0 < t.toInt) : Jvm.Free.Fl.NoNaN64 (FP.ddiv (FP.l2d c) (FP.l2d t)) := by
  obtain ⟨D, r, e, hD⟩ := own_pos_fin ht
  obtain ⟨A, q, e2, -⟩ := own_val_l2d hc
  exact Jvm.Free.Fl.val64_no.mpr (own_div_nn e2 e hD)
theorem own_q_zval {c t : Int64} (hc : 0 ≤ c.toInt) (ht : 0 < t.toInt) : zval b64 (val64 (ddiv (l2d c) (l2d t))) = (zmag b64 (val64 (ddiv (l2d c) (l2d t))) : Int) := by
  obtain ⟨D, r, e, hD⟩ := own_pos_fin ht
  obtain ⟨A, q, e2, -⟩ := own_val_l2d hc
  have h := own_sgn_div e2 e hD
  unfold zval
  rw [h]
  rfl
theorem own_q_val {c t : Int64} (hc : 0 ≤ c.toInt) (ht : 0 < t.toInt) : val64 (ddiv (l2d c) (l2d t)) ≠ .nan := by
  obtain ⟨D, r, e, hD⟩ := own_pos_fin ht
  obtain ⟨A, q, e2, -⟩ := own_val_l2d hc
  exact own_div_nn e2 e hD
theorem own_q_ge0 {c t : Int64} (hc : 0 ≤ c.toInt) (ht : 0 < t.toInt) : ¬ (cmpValue (FP.dcmp (FP.ddiv (FP.l2d c) (FP.l2d t)) FP.dconst0) .l < (0 : Int32)) := by
  have h := dcmp_zval (own_q_val hc ht) own_zero_nn
  rw [own_q_zval hc ht, show zval b64 (val64 dconst0) = 0 from by decide +kernel] at h
  show ¬ (cmpValue (dcmp (ddiv (l2d c) (l2d t)) dconst0) .l < (0 : Int32))
  rw [h]
  rcases hcmp : compare ((zmag b64 (val64 (ddiv (l2d c) (l2d t))) : Nat) : Int) 0 with _ | _ | _
  · rw [compare_lt_iff] at hcmp; omega
  · decide
  · decide
theorem own_q_le1 {c t : Int64} (hc : 0 ≤ c.toInt) (hct : c.toInt ≤ t.toInt) (ht : 0 < t.toInt) : ¬ ((0 : Int32) < cmpValue (FP.dcmp (FP.ddiv (FP.l2d c) (FP.l2d t)) FP.dconst1) .g) := by
  obtain ⟨D, r, e, hD⟩ := own_pos_fin ht
  obtain ⟨A, q, e2, -⟩ := own_val_l2d hc
  have hle := own_div_le e2 e hD own_one_nn (by rw [own_one_zmag, Nat.mul_comm]; exact Nat.mul_le_mul_left _ (own_l2d_mono hc hct))
  have h := dcmp_zval (own_q_val hc ht) own_one_nn
  have h1 : zval b64 (val64 dconst1) = (zmag b64 (val64 dconst1) : Int) := by decide +kernel
  rw [own_q_zval hc ht, h1] at h
  show ¬ ((0 : Int32) < cmpValue (dcmp (ddiv (l2d c) (l2d t)) dconst1) .g)
  rw [h]
  rcases hcmp : compare ((zmag b64 (val64 (ddiv (l2d c) (l2d t))) : Nat) : Int) ((zmag b64 (val64 dconst1) : Nat) : Int) with _ | _ | _
  · decide
  · decide
  · rw [compare_gt_iff] at hcmp; omega
theorem own_zero_self : cmpValue (FP.dcmp FP.dconst0 FP.dconst0) .l = (0 : Int32) := by decide +kernel
theorem own_zero_one : cmpValue (FP.dcmp FP.dconst0 FP.dconst1) .g = (-1 : Int32) := by decide +kernel
end OwnQ
theorem d3_0 : decode jdk_30_method_1_code 0 = .ok (.aload_n 0, 1) := by decide +kernel
theorem d3_1 : decode jdk_30_method_1_code 1 = .ok (.invokespecial 1, 3) := by decide +kernel
theorem d3_4 : decode jdk_30_method_1_code 4 = .ok (.return_, 1) := by decide +kernel
theorem pn_3 : plainName "java/lang/Record" = true := by first | (simp [plainName, overriddenIn]; done) | decide +kernel
theorem ef_rmRec (m : MethodId) (x0 : Addr) : entryFrame m #[(.ref x0)] 1 = mkF m 0 #[.val (.ref x0)] [] := by first | (simp [entryFrame, mkF, argsToLocals, Value.category]; done) | rfl
def Q_rmRec (Z : State) (a1 : Addr) (h0 : Heap) (n0 : Nat) (v : Option Value) (h : Heap) (L : List Loc) : Prop := v = none ∧ Fr n0 L ∧ h = h0
set_option maxRecDepth 65536 in
set_option maxHeartbeats 40000000 in
theorem rmRec (l : Launch) (Z : State) (a0 : Array Value) (hw : ∀ d ∈ tables_1, d.before a0 Z = true) (ws : List Jvm.Cond) (a1 : Addr) (h0 : Heap) (n0 : Nat) (Z0 : n0 ≤ h0.size) :
    MetFree l (⟨"java/lang/Record", "<init>", "()V"⟩ : MethodName) (head1 (Jvm.Cond.code (⟨"java/lang/Record", "<init>", "()V"⟩ : MethodName) jdk_30_method_1_code 1 none :: ws) ({ frames := 1, cells := 0, slots := 0, locals := 12 } : Room)) (fun a U => a = #[(.ref a1)] ∧ Z.Warmed39 U.vm ∧ U.heap = h0) (fun _ _ _ _ _ => True) (fun _ U o U' => ∃ v L, o = .returned v ∧ Q_rmRec Z a1 h0 n0 v U'.heap L ∧ FrameEnd U o U' L ({ frames := 1, cells := 0, slots := 0, locals := 12 } : Room).cells ({ frames := 1, cells := 0, slots := 0, locals := 12 } : Room).slots) := by
  refine MetFree.of_bodySF (plainFor_of_name pn_3) hisR ?_
  intro p e s m args below meth c s₁ Bd hml0 hP hK
  obtain ⟨rfl, hZ, hh⟩ := hP
  have hx := Bd.exec
  have hby := Bd.bytes
  have hml : c.maxLocals = 1 := hml0
  have hown : s.vm.findClass "java/lang/Record" = some m.cls := findClass_of_methodNamed Bd.named
  have hnm := (name_of_methodNamed Bd.named Bd.method).1
  have X0 : Stand p l e ({ frames := 1, cells := 0, slots := 0, locals := 12 } : Room) s m #[(.ref a1)] below meth c s₁ [] 0 0 := Stand.of_body Bd
  have e0 : s₁.heap = h0 := by rw [← hh, Bd.state]; rfl
  have N0 := Fr.nil n0
  refine own_enter (ef_rmRec m a1) ?_
  refine own_st (fun t_ k_ => XS.aloadN X0.here hx rfl (hb hby d3_0) rfl rfl k_) ?_
  show own_Go p e below s₁ (mkF m 1 #[.val (.ref a1)] [(.ref a1)]) _
  obtain ⟨T1, X1, e1, st1⟩ := initO X0 hx hZ hown (hw _ (List.mem_of_getElem? (i := 16) rfl)) (hw _ (List.mem_of_getElem? (i := 17) rfl)) (hw _ (List.mem_of_getElem? (i := 18) rfl)) e0 (g := (mkF m 1 #[.val (.ref a1)] [(.ref a1)])) rfl (by rw [hml]; rfl) rfl (hb hby d3_1) (by decide) (W := 0) (by show 2 * 0 + _ ≤ _; exact Nat.le_of_eq rfl) (by decide)
  refine own_st st1 ?_
  show own_Go p e below T1 (mkF m 4 #[.val (.ref a1)] []) _
  obtain ⟨fs, hr, hrun, hended, hW, hsame⟩ := X1.leave (v := none) (fun _ => rfl)
  refine own_fin (X1.returnOut hx Bd.returns (hb hby d3_4) hr) ⟨hrun, hended, _, _, rfl, ?_, ⟨_, rfl⟩, hW, hsame.mono (by decide) (by decide)⟩
  show Q_rmRec Z a1 h0 n0 _ T1.heap _
  rw [e1]
  exact ⟨rfl, N0, rfl⟩
theorem d1_0 : decode jdk_29_method_66_code 0 = .ok (.lload_n 0, 1) := by decide +kernel
theorem d1_1 : decode jdk_29_method_66_code 1 = .ok (.lload_n 2, 1) := by decide +kernel
theorem d1_2 : decode jdk_29_method_66_code 2 = .ok (.lcmp, 1) := by decide +kernel
theorem d1_3 : decode jdk_29_method_66_code 3 = .ok (.ifCond .lt 7, 3) := by decide +kernel
theorem d1_6 : decode jdk_29_method_66_code 6 = .ok (.lload_n 0, 1) := by decide +kernel
theorem d1_7 : decode jdk_29_method_66_code 7 = .ok (.goto 4, 3) := by decide +kernel
theorem d1_10 : decode jdk_29_method_66_code 10 = .ok (.lload_n 2, 1) := by decide +kernel
theorem d1_11 : decode jdk_29_method_66_code 11 = .ok (.lreturn, 1) := by decide +kernel
theorem ef_rmMax (m : MethodId) (x0 : Int64) (x1 : Int64) : entryFrame m #[(.long x0), (.long x1)] 4 = mkF m 0 #[.val (.long x0), .second, .val (.long x1), .second] [] := by first | (simp [entryFrame, mkF, argsToLocals, Value.category]; done) | rfl
def Q_rmMax (Z : State) (x : Int64) (y : Int64) (h0 : Heap) (n0 : Nat) (v : Option Value) (h : Heap) (L : List Loc) : Prop := ∃ r : Int64, v = some (.long r) ∧ Fr n0 L ∧ h = h0 ∧ (x.toInt ≤ r.toInt ∧ y.toInt ≤ r.toInt)
set_option maxRecDepth 65536 in
set_option maxHeartbeats 40000000 in
theorem rmMax (l : Launch) (Z : State) (a0 : Array Value) (hw : ∀ d ∈ tables_1, d.before a0 Z = true) (ws : List Jvm.Cond) (x : Int64) (y : Int64) (h0 : Heap) (n0 : Nat) (Z0 : n0 ≤ h0.size) :
    MetFree l (⟨"java/lang/Math", "max", "(JJ)J"⟩ : MethodName) (head1 (Jvm.Cond.code (⟨"java/lang/Math", "max", "(JJ)J"⟩ : MethodName) jdk_29_method_66_code 4 (some .long) :: ws) ({ frames := 0, cells := 0, slots := 0, locals := 0 } : Room)) (fun a U => a = #[(.long x), (.long y)] ∧ Z.Warmed39 U.vm ∧ U.heap = h0) (fun _ _ _ _ _ => True) (fun _ U o U' => ∃ v L, o = .returned v ∧ Q_rmMax Z x y h0 n0 v U'.heap L ∧ FrameEnd U o U' L ({ frames := 0, cells := 0, slots := 0, locals := 0 } : Room).cells ({ frames := 0, cells := 0, slots := 0, locals := 0 } : Room).slots) := by
  refine MetFree.of_bodySF (Jvm.Free.JP.mathPlain rfl (by decide +kernel)) hisR ?_
  intro p e s m args below meth c s₁ Bd hml0 hP hK
  obtain ⟨rfl, hZ, hh⟩ := hP
  have hx := Bd.exec
  have hby := Bd.bytes
  have hml : c.maxLocals = 4 := hml0
  have hown : s.vm.findClass "java/lang/Math" = some m.cls := findClass_of_methodNamed Bd.named
  have hnm := (name_of_methodNamed Bd.named Bd.method).1
  have X0 : Stand p l e ({ frames := 0, cells := 0, slots := 0, locals := 0 } : Room) s m #[(.long x), (.long y)] below meth c s₁ [] 0 0 := Stand.of_body Bd
  have e0 : s₁.heap = h0 := by rw [← hh, Bd.state]; rfl
  have N0 := Fr.nil n0
  refine own_enter (ef_rmMax m x y) ?_
  refine own_st (fun t_ k_ => XS.lloadN X0.here hx rfl (hb hby d1_0) rfl k_) ?_
  show own_Go p e below s₁ (mkF m 1 #[.val (.long x), .second, .val (.long y), .second] [(.long x)]) _
  refine own_st (fun t_ k_ => XS.lloadN X0.here hx rfl (hb hby d1_1) rfl k_) ?_
  show own_Go p e below s₁ (mkF m 2 #[.val (.long x), .second, .val (.long y), .second] [(.long y), (.long x)]) _
  refine own_st (fun t_ k_ => XS.lcmp X0.here hx rfl (hb hby d1_2) rfl k_) ?_
  show own_Go p e below s₁ (mkF m 3 #[.val (.long x), .second, .val (.long y), .second] [(.int (lcmpW x y))]) _
  by_cases hq : (lcmpW x y) < (0 : Int32)
  · skip
    refine own_st (fun t_ k_ => XS.ifYes X0.here hx rfl (pc0 := 3) (pc' := 10) rfl (hb hby d1_3) rfl ((if0 _ _).trans (tlt hq).1) (by decide) (by decide) k_) ?_
    show own_Go p e below s₁ (mkF m 10 #[.val (.long x), .second, .val (.long y), .second] []) _
    refine own_st (fun t_ k_ => XS.lloadN X0.here hx rfl (hb hby d1_10) rfl k_) ?_
    show own_Go p e below s₁ (mkF m 11 #[.val (.long x), .second, .val (.long y), .second] [(.long y)]) _
    obtain ⟨fs, hr, hrun, hended, hW, hsame⟩ := X0.leave (v := some (.long y)) (fun h => by rw [Bd.returns] at h; cases h)
    refine own_fin (own_retL X0 hx Bd.returns (hb hby d1_11) hr) ⟨hrun, hended, _, _, rfl, ?_, ⟨_, rfl⟩, hW, hsame.mono (by decide) (by decide)⟩
    show Q_rmMax Z x y h0 n0 _ s₁.heap _
    rw [e0]
    exact ⟨y, rfl, N0, rfl, (by have h := (lw_lt x y).mp hq; rw [Int64.lt_iff_toInt_lt] at h; omega)⟩
  · skip
    refine own_st (fun t_ k_ => XS.ifNo X0.here hx rfl (hb hby d1_3) rfl ((if0 _ _).trans (flt hq).1) k_) ?_
    show own_Go p e below s₁ (mkF m 6 #[.val (.long x), .second, .val (.long y), .second] []) _
    refine own_st (fun t_ k_ => XS.lloadN X0.here hx rfl (hb hby d1_6) rfl k_) ?_
    show own_Go p e below s₁ (mkF m 7 #[.val (.long x), .second, .val (.long y), .second] [(.long x)]) _
    refine own_st (fun t_ k_ => XS.goto X0.here hx rfl (pc0 := 7) (pc' := 11) rfl (hb hby d1_7) (by decide) (by decide) k_) ?_
    show own_Go p e below s₁ (mkF m 11 #[.val (.long x), .second, .val (.long y), .second] [(.long x)]) _
    obtain ⟨fs, hr, hrun, hended, hW, hsame⟩ := X0.leave (v := some (.long x)) (fun h => by rw [Bd.returns] at h; cases h)
    refine own_fin (own_retL X0 hx Bd.returns (hb hby d1_11) hr) ⟨hrun, hended, _, _, rfl, ?_, ⟨_, rfl⟩, hW, hsame.mono (by decide) (by decide)⟩
    show Q_rmMax Z x y h0 n0 _ s₁.heap _
    rw [e0]
    exact ⟨x, rfl, N0, rfl, (by have h : ¬ x < y := fun h => hq ((lw_lt x y).mpr h); rw [Int64.lt_iff_toInt_lt] at h; omega)⟩
theorem d2_0 : decode prog_27_method_1_code 0 = .ok (.aload_n 0, 1) := by decide +kernel
theorem d2_1 : decode prog_27_method_1_code 1 = .ok (.invokespecial 1, 3) := by decide +kernel
theorem d2_4 : decode prog_27_method_1_code 4 = .ok (.lload 5, 2) := by decide +kernel
theorem d2_6 : decode prog_27_method_1_code 6 = .ok (.lconst 0, 1) := by decide +kernel
theorem d2_7 : decode prog_27_method_1_code 7 = .ok (.lcmp, 1) := by decide +kernel
theorem d2_8 : decode prog_27_method_1_code 8 = .ok (.ifCond .lt 17, 3) := by decide +kernel
theorem d2_11 : decode prog_27_method_1_code 11 = .ok (.lload 5, 2) := by decide +kernel
theorem d2_13 : decode prog_27_method_1_code 13 = .ok (.lload_n 1, 1) := by decide +kernel
theorem d2_14 : decode prog_27_method_1_code 14 = .ok (.lcmp, 1) := by decide +kernel
theorem d2_15 : decode prog_27_method_1_code 15 = .ok (.ifCond .gt 10, 3) := by decide +kernel
theorem d2_18 : decode prog_27_method_1_code 18 = .ok (.lload 5, 2) := by decide +kernel
theorem d2_20 : decode prog_27_method_1_code 20 = .ok (.lload_n 3, 1) := by decide +kernel
theorem d2_21 : decode prog_27_method_1_code 21 = .ok (.lcmp, 1) := by decide +kernel
theorem d2_22 : decode prog_27_method_1_code 22 = .ok (.ifCond .le 20, 3) := by decide +kernel
theorem d2_42 : decode prog_27_method_1_code 42 = .ok (.aload_n 0, 1) := by decide +kernel
theorem d2_43 : decode prog_27_method_1_code 43 = .ok (.lload_n 1, 1) := by decide +kernel
theorem d2_44 : decode prog_27_method_1_code 44 = .ok (.putfield 16, 3) := by decide +kernel
theorem d2_47 : decode prog_27_method_1_code 47 = .ok (.aload_n 0, 1) := by decide +kernel
theorem d2_48 : decode prog_27_method_1_code 48 = .ok (.lload_n 3, 1) := by decide +kernel
theorem d2_49 : decode prog_27_method_1_code 49 = .ok (.putfield 22, 3) := by decide +kernel
theorem d2_52 : decode prog_27_method_1_code 52 = .ok (.aload_n 0, 1) := by decide +kernel
theorem d2_53 : decode prog_27_method_1_code 53 = .ok (.lload 5, 2) := by decide +kernel
theorem d2_55 : decode prog_27_method_1_code 55 = .ok (.putfield 25, 3) := by decide +kernel
theorem d2_58 : decode prog_27_method_1_code 58 = .ok (.return_, 1) := by decide +kernel
theorem pn_2 : plainName "com/example/goldweave/goldweave/engine/evaluation/PairwiseAccuracy" = true := by first | (simp [plainName, overriddenIn]; done) | decide +kernel
theorem pd___V : parseMethodDescriptor "()V" = some ⟨[], none⟩ := by decide +kernel
theorem ef_rmPA (m : MethodId) (x0 : Addr) (x1 : Int64) (x2 : Int64) (x3 : Int64) : entryFrame m #[(.ref x0), (.long x1), (.long x2), (.long x3)] 7 = mkF m 0 #[.val (.ref x0), .val (.long x1), .second, .val (.long x2), .second, .val (.long x3), .second] [] := by first | (simp [entryFrame, mkF, argsToLocals, Value.category]; done) | rfl
def Q_rmPA (Z : State) (a1 : Addr) (t : Int64) (l1 : Int64) (c1 : Int64) (u1 : Value) (u2 : Value) (u3 : Value) (h0 : Heap) (n0 : Nat) (v : Option Value) (h : Heap) (L : List Loc) : Prop := v = none ∧ Fr n0 L ∧ Keep h0 h [a1] ∧ Exa Z h a1 "com/example/goldweave/goldweave/engine/evaluation/PairwiseAccuracy" ∧ Fld Z h a1 "com/example/goldweave/goldweave/engine/evaluation/PairwiseAccuracy" "truePairs" "J" (.long t) ∧ Fld Z h a1 "com/example/goldweave/goldweave/engine/evaluation/PairwiseAccuracy" "linkedPairs" "J" (.long l1) ∧ Fld Z h a1 "com/example/goldweave/goldweave/engine/evaluation/PairwiseAccuracy" "correctPairs" "J" (.long c1)
set_option maxRecDepth 65536 in
set_option maxHeartbeats 40000000 in
theorem rmPA (l : Launch) (Z : State) (a0 : Array Value) (hw : ∀ d ∈ tables_1, d.before a0 Z = true) (ws : List Jvm.Cond) (a1 : Addr) (t : Int64) (l1 : Int64) (c1 : Int64) (u1 : Value) (u2 : Value) (u3 : Value) (h0 : Heap) (n0 : Nat) (Z0 : n0 ≤ h0.size) (pE_a1 : Exa Z h0 a1 "com/example/goldweave/goldweave/engine/evaluation/PairwiseAccuracy") (pF_truePairs_a1 : Fld Z h0 a1 "com/example/goldweave/goldweave/engine/evaluation/PairwiseAccuracy" "truePairs" "J" u1) (pF_linkedPairs_a1 : Fld Z h0 a1 "com/example/goldweave/goldweave/engine/evaluation/PairwiseAccuracy" "linkedPairs" "J" u2) (pF_correctPairs_a1 : Fld Z h0 a1 "com/example/goldweave/goldweave/engine/evaluation/PairwiseAccuracy" "correctPairs" "J" u3) (pG_a1 : n0 ≤ a1) (h1 : (0 ≤ c1.toInt)) (h2 : (c1.toInt ≤ t.toInt)) (h3 : (c1.toInt ≤ l1.toInt)) :
    MetFree l (⟨"com/example/goldweave/goldweave/engine/evaluation/PairwiseAccuracy", "<init>", "(JJJ)V"⟩ : MethodName) (head1 (Jvm.Cond.code (⟨"com/example/goldweave/goldweave/engine/evaluation/PairwiseAccuracy", "<init>", "(JJJ)V"⟩ : MethodName) prog_27_method_1_code 7 none :: ws) ({ frames := 2, cells := 0, slots := 0, locals := 24 } : Room)) (fun a U => a = #[(.ref a1), (.long t), (.long l1), (.long c1)] ∧ Z.Warmed39 U.vm ∧ U.heap = h0) (fun _ _ _ _ _ => True) (fun _ U o U' => ∃ v L, o = .returned v ∧ Q_rmPA Z a1 t l1 c1 u1 u2 u3 h0 n0 v U'.heap L ∧ FrameEnd U o U' L ({ frames := 2, cells := 0, slots := 0, locals := 24 } : Room).cells ({ frames := 2, cells := 0, slots := 0, locals := 24 } : Room).slots) := by
  refine MetFree.of_bodySF (plainFor_of_name pn_2) hisR ?_
  intro p e s m args below meth c s₁ Bd hml0 hP hK
  obtain ⟨rfl, hZ, hh⟩ := hP
  have hx := Bd.exec
  have hby := Bd.bytes
  have hml : c.maxLocals = 7 := hml0
  have hown : s.vm.findClass "com/example/goldweave/goldweave/engine/evaluation/PairwiseAccuracy" = some m.cls := findClass_of_methodNamed Bd.named
  have hnm := (name_of_methodNamed Bd.named Bd.method).1
  have X0 : Stand p l e ({ frames := 2, cells := 0, slots := 0, locals := 24 } : Room) s m #[(.ref a1), (.long t), (.long l1), (.long c1)] below meth c s₁ [] 0 0 := Stand.of_body Bd
  have e0 : s₁.heap = h0 := by rw [← hh, Bd.state]; rfl
  have N0 := Fr.nil n0
  refine own_enter (ef_rmPA m a1 t l1 c1) ?_
  have k1 : ¬ (lcmpW c1 (0 : Int64) < (0 : Int32)) := fun q => by have := (lw_lt _ _).mp q; rw [Int64.lt_iff_toInt_lt] at this; have e : (0 : Int64).toInt = 0 := rfl; omega
  have k2 : ¬ ((0 : Int32) < lcmpW c1 t) := fun q => by have := (lw_gt _ _).mp q; rw [Int64.lt_iff_toInt_lt] at this; omega
  have k3 : ¬ ((0 : Int32) < lcmpW c1 l1) := fun q => by have := (lw_gt _ _).mp q; rw [Int64.lt_iff_toInt_lt] at this; omega
  refine own_st (fun t_ k_ => XS.aloadN X0.here hx rfl (hb hby d2_0) rfl rfl k_) ?_
  show own_Go p e below s₁ (mkF m 1 #[.val (.ref a1), .val (.long t), .second, .val (.long l1), .second, .val (.long c1), .second] [(.ref a1)]) _
  obtain ⟨_, _, ⟨T1, L1, k1, n1⟩, -, X1, ⟨Lc1, hQ1, l1, y1, z1⟩, st1⟩ := X0.specialBack hx (y := (⟨"java/lang/Record", "<init>", "()V"⟩ : MethodName)) rfl hown (mvT hZ (hw _ (List.mem_of_getElem? (i := 11) rfl))) (mvT hZ (hw _ (List.mem_of_getElem? (i := 12) rfl))) (mvT hZ (hw _ (List.mem_of_getElem? (i := 15) rfl))) (by decide) (backOf (W := 0) (rmRec l Z a0 hw [] a1 h0 n0 Z0 ) hZ (hw _ (List.mem_of_getElem? (i := 15) rfl)) (hw _ (List.mem_of_getElem? (i := 14) rfl)) (by decide) (by decide)) (g := (mkF m 1 #[.val (.ref a1), .val (.long t), .second, .val (.long l1), .second, .val (.long c1), .second] [(.ref a1)])) rfl (by rw [hml]; rfl) (Steps.refl _) (a := a1) (argsL := []) (rest := []) (lenOf pd___V rfl) rfl (by show 2 * 0 + _ ≤ _; exact Nat.le_of_eq rfl) (hb hby d2_1) (fun _ _ => ⟨rfl, e0, (by decide : 0 + 0 ≤ _), (by decide : 0 + 0 ≤ _)⟩)
  dsimp only [Pt.U, Pt.locs, Pt.cells, Pt.slots] at X1 l1 y1 z1 st1 hQ1
  subst l1 y1 z1
  obtain ⟨rfl, Nq1, eH1⟩ := hQ1
  have N1 := Fr.app N0 Nq1
  refine own_tr st1 ?_
  show own_Go p e below T1 (mkF m 4 #[.val (.ref a1), .val (.long t), .second, .val (.long l1), .second, .val (.long c1), .second] []) _
  refine own_st (fun t_ k_ => XS.lload X1.here hx rfl (hb hby d2_4) rfl k_) ?_
  show own_Go p e below T1 (mkF m 6 #[.val (.ref a1), .val (.long t), .second, .val (.long l1), .second, .val (.long c1), .second] [(.long c1)]) _
  refine own_st (fun t_ k_ => XS.lconst X1.here hx rfl (hb hby d2_6) k_) ?_
  show own_Go p e below T1 (mkF m 7 #[.val (.ref a1), .val (.long t), .second, .val (.long l1), .second, .val (.long c1), .second] [(.long (0 : Int64)), (.long c1)]) _
  refine own_st (fun t_ k_ => XS.lcmp X1.here hx rfl (hb hby d2_7) rfl k_) ?_
  show own_Go p e below T1 (mkF m 8 #[.val (.ref a1), .val (.long t), .second, .val (.long l1), .second, .val (.long c1), .second] [(.int (lcmpW c1 (0 : Int64)))]) _
  refine own_st (fun t_ k_ => XS.ifNo X1.here hx rfl (hb hby d2_8) rfl ((if0 _ _).trans (flt k1).1) k_) ?_
  show own_Go p e below T1 (mkF m 11 #[.val (.ref a1), .val (.long t), .second, .val (.long l1), .second, .val (.long c1), .second] []) _
  refine own_st (fun t_ k_ => XS.lload X1.here hx rfl (hb hby d2_11) rfl k_) ?_
  show own_Go p e below T1 (mkF m 13 #[.val (.ref a1), .val (.long t), .second, .val (.long l1), .second, .val (.long c1), .second] [(.long c1)]) _
  refine own_st (fun t_ k_ => XS.lloadN X1.here hx rfl (hb hby d2_13) rfl k_) ?_
  show own_Go p e below T1 (mkF m 14 #[.val (.ref a1), .val (.long t), .second, .val (.long l1), .second, .val (.long c1), .second] [(.long t), (.long c1)]) _
  refine own_st (fun t_ k_ => XS.lcmp X1.here hx rfl (hb hby d2_14) rfl k_) ?_
  show own_Go p e below T1 (mkF m 15 #[.val (.ref a1), .val (.long t), .second, .val (.long l1), .second, .val (.long c1), .second] [(.int (lcmpW c1 t))]) _
  refine own_st (fun t_ k_ => XS.ifNo X1.here hx rfl (hb hby d2_15) rfl ((if0 _ _).trans (flt k2).2.2.1) k_) ?_
  show own_Go p e below T1 (mkF m 18 #[.val (.ref a1), .val (.long t), .second, .val (.long l1), .second, .val (.long c1), .second] []) _
  refine own_st (fun t_ k_ => XS.lload X1.here hx rfl (hb hby d2_18) rfl k_) ?_
  show own_Go p e below T1 (mkF m 20 #[.val (.ref a1), .val (.long t), .second, .val (.long l1), .second, .val (.long c1), .second] [(.long c1)]) _
  refine own_st (fun t_ k_ => XS.lloadN X1.here hx rfl (hb hby d2_20) rfl k_) ?_
  show own_Go p e below T1 (mkF m 21 #[.val (.ref a1), .val (.long t), .second, .val (.long l1), .second, .val (.long c1), .second] [(.long l1), (.long c1)]) _
  refine own_st (fun t_ k_ => XS.lcmp X1.here hx rfl (hb hby d2_21) rfl k_) ?_
  show own_Go p e below T1 (mkF m 22 #[.val (.ref a1), .val (.long t), .second, .val (.long l1), .second, .val (.long c1), .second] [(.int (lcmpW c1 l1))]) _
  refine own_st (fun t_ k_ => XS.ifYes X1.here hx rfl (pc0 := 22) (pc' := 42) rfl (hb hby d2_22) rfl ((if0 _ _).trans (flt k3).2.2.2) (by decide) (by decide) k_) ?_
  show own_Go p e below T1 (mkF m 42 #[.val (.ref a1), .val (.long t), .second, .val (.long l1), .second, .val (.long c1), .second] []) _
  refine own_st (fun t_ k_ => XS.aloadN X1.here hx rfl (hb hby d2_42) rfl rfl k_) ?_
  show own_Go p e below T1 (mkF m 43 #[.val (.ref a1), .val (.long t), .second, .val (.long l1), .second, .val (.long c1), .second] [(.ref a1)]) _
  refine own_st (fun t_ k_ => XS.lloadN X1.here hx rfl (hb hby d2_43) rfl k_) ?_
  show own_Go p e below T1 (mkF m 44 #[.val (.ref a1), .val (.long t), .second, .val (.long l1), .second, .val (.long c1), .second] [(.long t), (.ref a1)]) _
  obtain ⟨T2, h2, X2, e2, W2, st2⟩ := putF X1 hx hZ hown (host := "") (Or.inl (hw _ (List.mem_of_getElem? (i := 19) rfl))) Via.refl eH1 pF_truePairs_a1 pE_a1 (Or.inr ⟨(hw _ (List.mem_of_getElem? (i := 20) rfl)), rfl, hnm⟩) (hw _ (List.mem_of_getElem? (i := 6) rfl)) (ty := .long) (by decide) rfl rfl (g := (mkF m 44 #[.val (.ref a1), .val (.long t), .second, .val (.long l1), .second, .val (.long c1), .second] [(.long t), (.ref a1)])) rfl rfl (hb hby d2_44)
  have F2 := pF_truePairs_a1.same W2
  have K3 : Keep h0 h2 [a1] := (Keep.refl h0 [a1]).wr W2 (Or.inl (List.mem_of_getElem? (i := 0) rfl))
  have N2 := Fr.snoc X2 N1 pG_a1
  refine own_st st2 ?_
  show own_Go p e below T2 (mkF m 47 #[.val (.ref a1), .val (.long t), .second, .val (.long l1), .second, .val (.long c1), .second] []) _
  refine own_st (fun t_ k_ => XS.aloadN X2.here hx rfl (hb hby d2_47) rfl rfl k_) ?_
  show own_Go p e below T2 (mkF m 48 #[.val (.ref a1), .val (.long t), .second, .val (.long l1), .second, .val (.long c1), .second] [(.ref a1)]) _
  refine own_st (fun t_ k_ => XS.lloadN X2.here hx rfl (hb hby d2_48) rfl k_) ?_
  show own_Go p e below T2 (mkF m 49 #[.val (.ref a1), .val (.long t), .second, .val (.long l1), .second, .val (.long c1), .second] [(.long l1), (.ref a1)]) _
  have f4 := (pE_a1.wr W2)
  have f5 := (pF_linkedPairs_a1.other W2 (Or.inr (slot_ne (Or.inr (hw _ (List.mem_of_getElem? (i := 22) rfl))) (Or.inr (hw _ (List.mem_of_getElem? (i := 20) rfl))) (by decide) (t := .long) (t' := .long) (by decide) (by decide))))
  obtain ⟨T6, h6, X6, e6, W6, st6⟩ := putF X2 hx hZ hown (host := "") (Or.inl (hw _ (List.mem_of_getElem? (i := 21) rfl))) Via.refl e2 f5 f4 (Or.inr ⟨(hw _ (List.mem_of_getElem? (i := 22) rfl)), rfl, hnm⟩) (hw _ (List.mem_of_getElem? (i := 6) rfl)) (ty := .long) (by decide) rfl rfl (g := (mkF m 49 #[.val (.ref a1), .val (.long t), .second, .val (.long l1), .second, .val (.long c1), .second] [(.long l1), (.ref a1)])) rfl rfl (hb hby d2_49)
  have F6 := f5.same W6
  have K7 : Keep h0 h6 [a1] := K3.wr W6 (Or.inl (List.mem_of_getElem? (i := 0) rfl))
  have N6 := Fr.snoc X6 N2 pG_a1
  refine own_st st6 ?_
  show own_Go p e below T6 (mkF m 52 #[.val (.ref a1), .val (.long t), .second, .val (.long l1), .second, .val (.long c1), .second] []) _
  refine own_st (fun t_ k_ => XS.aloadN X6.here hx rfl (hb hby d2_52) rfl rfl k_) ?_
  show own_Go p e below T6 (mkF m 53 #[.val (.ref a1), .val (.long t), .second, .val (.long l1), .second, .val (.long c1), .second] [(.ref a1)]) _
  refine own_st (fun t_ k_ => XS.lload X6.here hx rfl (hb hby d2_53) rfl k_) ?_
  show own_Go p e below T6 (mkF m 55 #[.val (.ref a1), .val (.long t), .second, .val (.long l1), .second, .val (.long c1), .second] [(.long c1), (.ref a1)]) _
  have f8 := (f4.wr W6)
  have f9 := ((pF_correctPairs_a1.other W2 (Or.inr (slot_ne (Or.inr (hw _ (List.mem_of_getElem? (i := 24) rfl))) (Or.inr (hw _ (List.mem_of_getElem? (i := 20) rfl))) (by decide) (t := .long) (t' := .long) (by decide) (by decide)))).other W6 (Or.inr (slot_ne (Or.inr (hw _ (List.mem_of_getElem? (i := 24) rfl))) (Or.inr (hw _ (List.mem_of_getElem? (i := 22) rfl))) (by decide) (t := .long) (t' := .long) (by decide) (by decide))))
  obtain ⟨T10, h10, X10, e10, W10, st10⟩ := putF X6 hx hZ hown (host := "") (Or.inl (hw _ (List.mem_of_getElem? (i := 23) rfl))) Via.refl e6 f9 f8 (Or.inr ⟨(hw _ (List.mem_of_getElem? (i := 24) rfl)), rfl, hnm⟩) (hw _ (List.mem_of_getElem? (i := 6) rfl)) (ty := .long) (by decide) rfl rfl (g := (mkF m 55 #[.val (.ref a1), .val (.long t), .second, .val (.long l1), .second, .val (.long c1), .second] [(.long c1), (.ref a1)])) rfl rfl (hb hby d2_55)
  have F10 := f9.same W10
  have K11 : Keep h0 h10 [a1] := K7.wr W10 (Or.inl (List.mem_of_getElem? (i := 0) rfl))
  have N10 := Fr.snoc X10 N6 pG_a1
  refine own_st st10 ?_
  show own_Go p e below T10 (mkF m 58 #[.val (.ref a1), .val (.long t), .second, .val (.long l1), .second, .val (.long c1), .second] []) _
  have f12 := (f8.wr W10)
  have f13 := ((F2.other W6 (Or.inr (slot_ne (Or.inr (hw _ (List.mem_of_getElem? (i := 20) rfl))) (Or.inr (hw _ (List.mem_of_getElem? (i := 22) rfl))) (by decide) (t := .long) (t' := .long) (by decide) (by decide)))).other W10 (Or.inr (slot_ne (Or.inr (hw _ (List.mem_of_getElem? (i := 20) rfl))) (Or.inr (hw _ (List.mem_of_getElem? (i := 24) rfl))) (by decide) (t := .long) (t' := .long) (by decide) (by decide))))
  have f14 := (F6.other W10 (Or.inr (slot_ne (Or.inr (hw _ (List.mem_of_getElem? (i := 22) rfl))) (Or.inr (hw _ (List.mem_of_getElem? (i := 24) rfl))) (by decide) (t := .long) (t' := .long) (by decide) (by decide))))
  obtain ⟨fs, hr, hrun, hended, hW, hsame⟩ := X10.leave (v := none) (fun _ => rfl)
  refine own_fin (X10.returnOut hx Bd.returns (hb hby d2_58) hr) ⟨hrun, hended, _, _, rfl, ?_, ⟨_, rfl⟩, hW, hsame.mono (by decide) (by decide)⟩
  show Q_rmPA Z a1 t l1 c1 u1 u2 u3 h0 n0 _ T10.heap _
  rw [e10]
  exact ⟨rfl, N10, K11, f12, f13, f14, F10⟩
theorem d6_0 : decode prog_27_method_7_code 0 = .ok (.lload_n 2, 1) := by decide +kernel
theorem d6_1 : decode prog_27_method_7_code 1 = .ok (.lconst 0, 1) := by decide +kernel
theorem d6_2 : decode prog_27_method_7_code 2 = .ok (.lcmp, 1) := by decide +kernel
theorem d6_3 : decode prog_27_method_7_code 3 = .ok (.ifCond .ne 7, 3) := by decide +kernel
theorem d6_6 : decode prog_27_method_7_code 6 = .ok (.dconst 0, 1) := by decide +kernel
theorem d6_7 : decode prog_27_method_7_code 7 = .ok (.goto 8, 3) := by decide +kernel
theorem d6_15 : decode prog_27_method_7_code 15 = .ok (.dreturn, 1) := by decide +kernel
theorem pn_6 : plainName "com/example/goldweave/goldweave/engine/evaluation/PairwiseAccuracy" = true := by first | (simp [plainName, overriddenIn]; done) | decide +kernel
theorem ef_rmRa0 (m : MethodId) (x0 : Int64) (x1 : Int64) : entryFrame m #[(.long x0), (.long x1)] 4 = mkF m 0 #[.val (.long x0), .second, .val (.long x1), .second] [] := by first | (simp [entryFrame, mkF, argsToLocals, Value.category]; done) | rfl
def Q_rmRa0 (Z : State) (x : Int64) (h0 : Heap) (n0 : Nat) (v : Option Value) (h : Heap) (L : List Loc) : Prop := v = some (.double FP.dconst0) ∧ Fr n0 L ∧ h = h0
set_option maxRecDepth 65536 in
set_option maxHeartbeats 40000000 in
theorem rmRa0 (l : Launch) (Z : State) (a0 : Array Value) (hw : ∀ d ∈ tables_1, d.before a0 Z = true) (ws : List Jvm.Cond) (x : Int64) (h0 : Heap) (n0 : Nat) (Z0 : n0 ≤ h0.size) :
    MetFree l (⟨"com/example/goldweave/goldweave/engine/evaluation/PairwiseAccuracy", "ratio", "(JJ)D"⟩ : MethodName) (head1 (Jvm.Cond.code (⟨"com/example/goldweave/goldweave/engine/evaluation/PairwiseAccuracy", "ratio", "(JJ)D"⟩ : MethodName) prog_27_method_7_code 4 (some .double) :: ws) ({ frames := 0, cells := 0, slots := 0, locals := 0 } : Room)) (fun a U => a = #[(.long x), (.long (0 : Int64))] ∧ Z.Warmed39 U.vm ∧ U.heap = h0) (fun _ _ _ _ _ => True) (fun _ U o U' => ∃ v L, o = .returned v ∧ Q_rmRa0 Z x h0 n0 v U'.heap L ∧ FrameEnd U o U' L ({ frames := 0, cells := 0, slots := 0, locals := 0 } : Room).cells ({ frames := 0, cells := 0, slots := 0, locals := 0 } : Room).slots) := by
  refine MetFree.of_bodySF (plainFor_of_name pn_6) hisR ?_
  intro p e s m args below meth c s₁ Bd hml0 hP hK
  obtain ⟨rfl, hZ, hh⟩ := hP
  have hx := Bd.exec
  have hby := Bd.bytes
  have hml : c.maxLocals = 4 := hml0
  have hown : s.vm.findClass "com/example/goldweave/goldweave/engine/evaluation/PairwiseAccuracy" = some m.cls := findClass_of_methodNamed Bd.named
  have hnm := (name_of_methodNamed Bd.named Bd.method).1
  have X0 : Stand p l e ({ frames := 0, cells := 0, slots := 0, locals := 0 } : Room) s m #[(.long x), (.long (0 : Int64))] below meth c s₁ [] 0 0 := Stand.of_body Bd
  have e0 : s₁.heap = h0 := by rw [← hh, Bd.state]; rfl
  have N0 := Fr.nil n0
  refine own_enter (ef_rmRa0 m x ((0 : Int64))) ?_
  refine own_st (fun t_ k_ => XS.lloadN X0.here hx rfl (hb hby d6_0) rfl k_) ?_
  show own_Go p e below s₁ (mkF m 1 #[.val (.long x), .second, .val (.long (0 : Int64)), .second] [(.long (0 : Int64))]) _
  refine own_st (fun t_ k_ => XS.lconst X0.here hx rfl (hb hby d6_1) k_) ?_
  show own_Go p e below s₁ (mkF m 2 #[.val (.long x), .second, .val (.long (0 : Int64)), .second] [(.long (0 : Int64)), (.long (0 : Int64))]) _
  refine own_st (fun t_ k_ => XS.lcmp X0.here hx rfl (hb hby d6_2) rfl k_) ?_
  show own_Go p e below s₁ (mkF m 3 #[.val (.long x), .second, .val (.long (0 : Int64)), .second] [(.int (lcmpW (0 : Int64) (0 : Int64)))]) _
  refine own_st (fun t_ k_ => XS.ifNo X0.here hx rfl (hb hby d6_3) rfl ((if0 _ _).trans (teq ((lw_eq _ _).mpr rfl)).2) k_) ?_
  show own_Go p e below s₁ (mkF m 6 #[.val (.long x), .second, .val (.long (0 : Int64)), .second] []) _
  refine own_st (fun t_ k_ => XS.dconst0 X0.here hx rfl (hb hby d6_6) rfl k_) ?_
  show own_Go p e below s₁ (mkF m 7 #[.val (.long x), .second, .val (.long (0 : Int64)), .second] [(.double FP.dconst0)]) _
  refine own_st (fun t_ k_ => XS.goto X0.here hx rfl (pc0 := 7) (pc' := 15) rfl (hb hby d6_7) (by decide) (by decide) k_) ?_
  show own_Go p e below s₁ (mkF m 15 #[.val (.long x), .second, .val (.long (0 : Int64)), .second] [(.double FP.dconst0)]) _
  obtain ⟨fs, hr, hrun, hended, hW, hsame⟩ := X0.leave (v := some (.double FP.dconst0)) (fun h => by rw [Bd.returns] at h; cases h)
  refine own_fin (own_retD X0 hx Bd.returns (hb hby d6_15) hr) ⟨hrun, hended, _, _, rfl, ?_, ⟨_, rfl⟩, hW, hsame.mono (by decide) (by decide)⟩
  show Q_rmRa0 Z x h0 n0 _ s₁.heap _
  rw [e0]
  exact ⟨rfl, N0, rfl⟩
theorem d6_10 : decode prog_27_method_7_code 10 = .ok (.lload_n 0, 1) := by decide +kernel
theorem d6_11 : decode prog_27_method_7_code 11 = .ok (.l2d, 1) := by decide +kernel
theorem d6_12 : decode prog_27_method_7_code 12 = .ok (.lload_n 2, 1) := by decide +kernel
theorem d6_13 : decode prog_27_method_7_code 13 = .ok (.l2d, 1) := by decide +kernel
theorem d6_14 : decode prog_27_method_7_code 14 = .ok (.ddiv, 1) := by decide +kernel
theorem ef_rmRa1 (m : MethodId) (x0 : Int64) (x1 : Int64) : entryFrame m #[(.long x0), (.long x1)] 4 = mkF m 0 #[.val (.long x0), .second, .val (.long x1), .second] [] := by first | (simp [entryFrame, mkF, argsToLocals, Value.category]; done) | rfl
def Q_rmRa1 (Z : State) (x : Int64) (y : Int64) (h0 : Heap) (n0 : Nat) (v : Option Value) (h : Heap) (L : List Loc) : Prop := v = some (.double (FP.ddiv (FP.l2d x) (FP.l2d y))) ∧ Fr n0 L ∧ h = h0
set_option maxRecDepth 65536 in
set_option maxHeartbeats 40000000 in
theorem rmRa1 (l : Launch) (Z : State) (a0 : Array Value) (hw : ∀ d ∈ tables_1, d.before a0 Z = true) (ws : List Jvm.Cond) (x : Int64) (y : Int64) (h0 : Heap) (n0 : Nat) (Z0 : n0 ≤ h0.size) (h1 : (0 ≤ x.toInt)) (h2 : (0 < y.toInt)) :
    MetFree l (⟨"com/example/goldweave/goldweave/engine/evaluation/PairwiseAccuracy", "ratio", "(JJ)D"⟩ : MethodName) (head1 (Jvm.Cond.code (⟨"com/example/goldweave/goldweave/engine/evaluation/PairwiseAccuracy", "ratio", "(JJ)D"⟩ : MethodName) prog_27_method_7_code 4 (some .double) :: ws) ({ frames := 0, cells := 0, slots := 0, locals := 0 } : Room)) (fun a U => a = #[(.long x), (.long y)] ∧ Z.Warmed39 U.vm ∧ U.heap = h0) (fun _ _ _ _ _ => True) (fun _ U o U' => ∃ v L, o = .returned v ∧ Q_rmRa1 Z x y h0 n0 v U'.heap L ∧ FrameEnd U o U' L ({ frames := 0, cells := 0, slots := 0, locals := 0 } : Room).cells ({ frames := 0, cells := 0, slots := 0, locals := 0 } : Room).slots) := by
  refine MetFree.of_bodySF (plainFor_of_name pn_6) hisR ?_
  intro p e s m args below meth c s₁ Bd hml0 hP hK
  obtain ⟨rfl, hZ, hh⟩ := hP
  have hx := Bd.exec
  have hby := Bd.bytes
  have hml : c.maxLocals = 4 := hml0
  have hown : s.vm.findClass "com/example/goldweave/goldweave/engine/evaluation/PairwiseAccuracy" = some m.cls := findClass_of_methodNamed Bd.named
  have hnm := (name_of_methodNamed Bd.named Bd.method).1
  have X0 : Stand p l e ({ frames := 0, cells := 0, slots := 0, locals := 0 } : Room) s m #[(.long x), (.long y)] below meth c s₁ [] 0 0 := Stand.of_body Bd
  have e0 : s₁.heap = h0 := by rw [← hh, Bd.state]; rfl
  have N0 := Fr.nil n0
  refine own_enter (ef_rmRa1 m x y) ?_
  have hy : ¬ (lcmpW y (0 : Int64) = (0 : Int32)) := fun q => by have := (lw_eq _ _).mp q; subst this; exact absurd h2 (by decide)
  refine own_st (fun t_ k_ => XS.lloadN X0.here hx rfl (hb hby d6_0) rfl k_) ?_
  show own_Go p e below s₁ (mkF m 1 #[.val (.long x), .second, .val (.long y), .second] [(.long y)]) _
  refine own_st (fun t_ k_ => XS.lconst X0.here hx rfl (hb hby d6_1) k_) ?_
  show own_Go p e below s₁ (mkF m 2 #[.val (.long x), .second, .val (.long y), .second] [(.long (0 : Int64)), (.long y)]) _
  refine own_st (fun t_ k_ => XS.lcmp X0.here hx rfl (hb hby d6_2) rfl k_) ?_
  show own_Go p e below s₁ (mkF m 3 #[.val (.long x), .second, .val (.long y), .second] [(.int (lcmpW y (0 : Int64)))]) _
  refine own_st (fun t_ k_ => XS.ifYes X0.here hx rfl (pc0 := 3) (pc' := 10) rfl (hb hby d6_3) rfl ((if0 _ _).trans (feq hy).2) (by decide) (by decide) k_) ?_
  show own_Go p e below s₁ (mkF m 10 #[.val (.long x), .second, .val (.long y), .second] []) _
  refine own_st (fun t_ k_ => XS.lloadN X0.here hx rfl (hb hby d6_10) rfl k_) ?_
  show own_Go p e below s₁ (mkF m 11 #[.val (.long x), .second, .val (.long y), .second] [(.long x)]) _
  refine own_st (fun t_ k_ => XS.l2dS X0.here hx rfl (hb hby d6_11) rfl rfl k_) ?_
  show own_Go p e below s₁ (mkF m 12 #[.val (.long x), .second, .val (.long y), .second] [(.double (FP.l2d x))]) _
  refine own_st (fun t_ k_ => XS.lloadN X0.here hx rfl (hb hby d6_12) rfl k_) ?_
  show own_Go p e below s₁ (mkF m 13 #[.val (.long x), .second, .val (.long y), .second] [(.long y), (.double (FP.l2d x))]) _
  refine own_st (fun t_ k_ => XS.l2dS X0.here hx rfl (hb hby d6_13) rfl rfl k_) ?_
  show own_Go p e below s₁ (mkF m 14 #[.val (.long x), .second, .val (.long y), .second] [(.double (FP.l2d y)), (.double (FP.l2d x))]) _
  refine own_st (fun t_ k_ => XS.ddivS X0.here hx rfl (hb hby d6_14) rfl (own_q_nn h1 h2) rfl k_) ?_
  show own_Go p e below s₁ (mkF m 15 #[.val (.long x), .second, .val (.long y), .second] [(.double (FP.ddiv (FP.l2d x) (FP.l2d y)))]) _
  obtain ⟨fs, hr, hrun, hended, hW, hsame⟩ := X0.leave (v := some (.double (FP.ddiv (FP.l2d x) (FP.l2d y)))) (fun h => by rw [Bd.returns] at h; cases h)
  refine own_fin (own_retD X0 hx Bd.returns (hb hby d6_15) hr) ⟨hrun, hended, _, _, rfl, ?_, ⟨_, rfl⟩, hW, hsame.mono (by decide) (by decide)⟩
  show Q_rmRa1 Z x y h0 n0 _ s₁.heap _
  rw [e0]
  exact ⟨rfl, N0, rfl⟩
theorem d5_0 : decode prog_27_method_3_code 0 = .ok (.aload_n 0, 1) := by decide +kernel
theorem d5_1 : decode prog_27_method_3_code 1 = .ok (.getfield 25, 3) := by decide +kernel
theorem d5_4 : decode prog_27_method_3_code 4 = .ok (.aload_n 0, 1) := by decide +kernel
theorem d5_5 : decode prog_27_method_3_code 5 = .ok (.getfield 22, 3) := by decide +kernel
theorem d5_8 : decode prog_27_method_3_code 8 = .ok (.invokestatic 41, 3) := by decide +kernel
theorem d5_11 : decode prog_27_method_3_code 11 = .ok (.dreturn, 1) := by decide +kernel
theorem pn_5 : plainName "com/example/goldweave/goldweave/engine/evaluation/PairwiseAccuracy" = true := by first | (simp [plainName, overriddenIn]; done) | decide +kernel
theorem pd__JJ_D : parseMethodDescriptor "(JJ)D" = some ⟨[.long, .long], some .double⟩ := by decide +kernel
theorem ef_rmRe0 (m : MethodId) (x0 : Addr) : entryFrame m #[(.ref x0)] 1 = mkF m 0 #[.val (.ref x0)] [] := by first | (simp [entryFrame, mkF, argsToLocals, Value.category]; done) | rfl
def Q_rmRe0 (Z : State) (a1 : Addr) (x : Int64) (h0 : Heap) (n0 : Nat) (v : Option Value) (h : Heap) (L : List Loc) : Prop := v = some (.double FP.dconst0) ∧ Fr n0 L ∧ h = h0
set_option maxRecDepth 65536 in
set_option maxHeartbeats 40000000 in
theorem rmRe0 (l : Launch) (Z : State) (a0 : Array Value) (hw : ∀ d ∈ tables_1, d.before a0 Z = true) (ws : List Jvm.Cond) (a1 : Addr) (x : Int64) (h0 : Heap) (n0 : Nat) (Z0 : n0 ≤ h0.size) (pF_correctPairs_a1 : Fld Z h0 a1 "com/example/goldweave/goldweave/engine/evaluation/PairwiseAccuracy" "correctPairs" "J" (.long x)) (pF_linkedPairs_a1 : Fld Z h0 a1 "com/example/goldweave/goldweave/engine/evaluation/PairwiseAccuracy" "linkedPairs" "J" (.long (0 : Int64))) :
    MetFree l (⟨"com/example/goldweave/goldweave/engine/evaluation/PairwiseAccuracy", "precision", "()D"⟩ : MethodName) (head1 (Jvm.Cond.code (⟨"com/example/goldweave/goldweave/engine/evaluation/PairwiseAccuracy", "precision", "()D"⟩ : MethodName) prog_27_method_3_code 1 (some .double) :: ws) ({ frames := 1, cells := 0, slots := 0, locals := 15 } : Room)) (fun a U => a = #[(.ref a1)] ∧ Z.Warmed39 U.vm ∧ U.heap = h0) (fun _ _ _ _ _ => True) (fun _ U o U' => ∃ v L, o = .returned v ∧ Q_rmRe0 Z a1 x h0 n0 v U'.heap L ∧ FrameEnd U o U' L ({ frames := 1, cells := 0, slots := 0, locals := 15 } : Room).cells ({ frames := 1, cells := 0, slots := 0, locals := 15 } : Room).slots) := by
  refine MetFree.of_bodySF (plainFor_of_name pn_5) hisR ?_
  intro p e s m args below meth c s₁ Bd hml0 hP hK
  obtain ⟨rfl, hZ, hh⟩ := hP
  have hx := Bd.exec
  have hby := Bd.bytes
  have hml : c.maxLocals = 1 := hml0
  have hown : s.vm.findClass "com/example/goldweave/goldweave/engine/evaluation/PairwiseAccuracy" = some m.cls := findClass_of_methodNamed Bd.named
  have hnm := (name_of_methodNamed Bd.named Bd.method).1
  have X0 : Stand p l e ({ frames := 1, cells := 0, slots := 0, locals := 15 } : Room) s m #[(.ref a1)] below meth c s₁ [] 0 0 := Stand.of_body Bd
  have e0 : s₁.heap = h0 := by rw [← hh, Bd.state]; rfl
  have N0 := Fr.nil n0
  refine own_enter (ef_rmRe0 m a1) ?_
  refine own_st (fun t_ k_ => XS.aloadN X0.here hx rfl (hb hby d5_0) rfl rfl k_) ?_
  show own_Go p e below s₁ (mkF m 1 #[.val (.ref a1)] [(.ref a1)]) _
  obtain ⟨T1, X1, e1, st1⟩ := getF X0 hx hZ hown (host := "") (Or.inl (hw _ (List.mem_of_getElem? (i := 23) rfl))) Via.refl e0 pF_correctPairs_a1 (g := (mkF m 1 #[.val (.ref a1)] [(.ref a1)])) rfl rfl (hb hby d5_1)
  refine own_st st1 ?_
  show own_Go p e below T1 (mkF m 4 #[.val (.ref a1)] [(.long x)]) _
  refine own_st (fun t_ k_ => XS.aloadN X1.here hx rfl (hb hby d5_4) rfl rfl k_) ?_
  show own_Go p e below T1 (mkF m 5 #[.val (.ref a1)] [(.ref a1), (.long x)]) _
  obtain ⟨T2, X2, e2, st2⟩ := getF X1 hx hZ hown (host := "") (Or.inl (hw _ (List.mem_of_getElem? (i := 21) rfl))) Via.refl e1 pF_linkedPairs_a1 (g := (mkF m 5 #[.val (.ref a1)] [(.ref a1), (.long x)])) rfl rfl (hb hby d5_5)
  refine own_st st2 ?_
  show own_Go p e below T2 (mkF m 8 #[.val (.ref a1)] [(.long (0 : Int64)), (.long x)]) _
  obtain ⟨_, _, ⟨T3, L3, k3, n3⟩, -, X3, ⟨Lc3, hQ3, l3, y3, z3⟩, st3⟩ := Jvm.LawKit.callS X2 hx (y := (⟨"com/example/goldweave/goldweave/engine/evaluation/PairwiseAccuracy", "ratio", "(JJ)D"⟩ : MethodName)) hown (mvT hZ (hw _ (List.mem_of_getElem? (i := 30) rfl))) (mvT hZ (hw _ (List.mem_of_getElem? (i := 31) rfl))) (mvT hZ (hw _ (List.mem_of_getElem? (i := 7) rfl))) (mvT hZ (hw _ (List.mem_of_getElem? (i := 32) rfl))) (by decide) (backOf (W := 0) (rmRa0 l Z a0 hw [] x h0 n0 Z0 ) hZ (hw _ (List.mem_of_getElem? (i := 32) rfl)) (hw _ (List.mem_of_getElem? (i := 7) rfl)) (by decide) (by decide)) (g := (mkF m 8 #[.val (.ref a1)] [(.long (0 : Int64)), (.long x)])) rfl (by rw [hml]; rfl) (argsL := [(.long x), (.long (0 : Int64))]) (rest := []) (lenOf pd__JJ_D rfl) rfl (by show 2 * 0 + _ ≤ _; exact Nat.le_of_eq rfl) (hb hby d5_8) (fun _ _ => ⟨rfl, e2, (by decide : 0 + 0 ≤ _), (by decide : 0 + 0 ≤ _)⟩)
  dsimp only [Pt.U, Pt.locs, Pt.cells, Pt.slots] at X3 l3 y3 z3 st3 hQ3
  subst l3 y3 z3
  obtain ⟨rfl, Nq3, eH3⟩ := hQ3
  have N3 := Fr.app N0 Nq3
  refine own_st st3 ?_
  show own_Go p e below T3 (mkF m 11 #[.val (.ref a1)] [(.double FP.dconst0)]) _
  obtain ⟨fs, hr, hrun, hended, hW, hsame⟩ := X3.leave (v := some (.double FP.dconst0)) (fun h => by rw [Bd.returns] at h; cases h)
  refine own_fin (own_retD X3 hx Bd.returns (hb hby d5_11) hr) ⟨hrun, hended, _, _, rfl, ?_, ⟨_, rfl⟩, hW, hsame.mono (by decide) (by decide)⟩
  show Q_rmRe0 Z a1 x h0 n0 _ T3.heap _
  rw [eH3]
  exact ⟨rfl, N3, rfl⟩
theorem ef_rmRe1 (m : MethodId) (x0 : Addr) : entryFrame m #[(.ref x0)] 1 = mkF m 0 #[.val (.ref x0)] [] := by first | (simp [entryFrame, mkF, argsToLocals, Value.category]; done) | rfl
def Q_rmRe1 (Z : State) (a1 : Addr) (x : Int64) (y : Int64) (h0 : Heap) (n0 : Nat) (v : Option Value) (h : Heap) (L : List Loc) : Prop := v = some (.double (FP.ddiv (FP.l2d x) (FP.l2d y))) ∧ Fr n0 L ∧ h = h0
set_option maxRecDepth 65536 in
set_option maxHeartbeats 40000000 in
theorem rmRe1 (l : Launch) (Z : State) (a0 : Array Value) (hw : ∀ d ∈ tables_1, d.before a0 Z = true) (ws : List Jvm.Cond) (a1 : Addr) (x : Int64) (y : Int64) (h0 : Heap) (n0 : Nat) (Z0 : n0 ≤ h0.size) (pF_correctPairs_a1 : Fld Z h0 a1 "com/example/goldweave/goldweave/engine/evaluation/PairwiseAccuracy" "correctPairs" "J" (.long x)) (pF_linkedPairs_a1 : Fld Z h0 a1 "com/example/goldweave/goldweave/engine/evaluation/PairwiseAccuracy" "linkedPairs" "J" (.long y)) (h1 : (0 ≤ x.toInt)) (h2 : (0 < y.toInt)) :
    MetFree l (⟨"com/example/goldweave/goldweave/engine/evaluation/PairwiseAccuracy", "precision", "()D"⟩ : MethodName) (head1 (Jvm.Cond.code (⟨"com/example/goldweave/goldweave/engine/evaluation/PairwiseAccuracy", "precision", "()D"⟩ : MethodName) prog_27_method_3_code 1 (some .double) :: ws) ({ frames := 1, cells := 0, slots := 0, locals := 15 } : Room)) (fun a U => a = #[(.ref a1)] ∧ Z.Warmed39 U.vm ∧ U.heap = h0) (fun _ _ _ _ _ => True) (fun _ U o U' => ∃ v L, o = .returned v ∧ Q_rmRe1 Z a1 x y h0 n0 v U'.heap L ∧ FrameEnd U o U' L ({ frames := 1, cells := 0, slots := 0, locals := 15 } : Room).cells ({ frames := 1, cells := 0, slots := 0, locals := 15 } : Room).slots) := by
  refine MetFree.of_bodySF (plainFor_of_name pn_5) hisR ?_
  intro p e s m args below meth c s₁ Bd hml0 hP hK
  obtain ⟨rfl, hZ, hh⟩ := hP
  have hx := Bd.exec
  have hby := Bd.bytes
  have hml : c.maxLocals = 1 := hml0
  have hown : s.vm.findClass "com/example/goldweave/goldweave/engine/evaluation/PairwiseAccuracy" = some m.cls := findClass_of_methodNamed Bd.named
  have hnm := (name_of_methodNamed Bd.named Bd.method).1
  have X0 : Stand p l e ({ frames := 1, cells := 0, slots := 0, locals := 15 } : Room) s m #[(.ref a1)] below meth c s₁ [] 0 0 := Stand.of_body Bd
  have e0 : s₁.heap = h0 := by rw [← hh, Bd.state]; rfl
  have N0 := Fr.nil n0
  refine own_enter (ef_rmRe1 m a1) ?_
  refine own_st (fun t_ k_ => XS.aloadN X0.here hx rfl (hb hby d5_0) rfl rfl k_) ?_
  show own_Go p e below s₁ (mkF m 1 #[.val (.ref a1)] [(.ref a1)]) _
  obtain ⟨T1, X1, e1, st1⟩ := getF X0 hx hZ hown (host := "") (Or.inl (hw _ (List.mem_of_getElem? (i := 23) rfl))) Via.refl e0 pF_correctPairs_a1 (g := (mkF m 1 #[.val (.ref a1)] [(.ref a1)])) rfl rfl (hb hby d5_1)
  refine own_st st1 ?_
  show own_Go p e below T1 (mkF m 4 #[.val (.ref a1)] [(.long x)]) _
  refine own_st (fun t_ k_ => XS.aloadN X1.here hx rfl (hb hby d5_4) rfl rfl k_) ?_
  show own_Go p e below T1 (mkF m 5 #[.val (.ref a1)] [(.ref a1), (.long x)]) _
  obtain ⟨T2, X2, e2, st2⟩ := getF X1 hx hZ hown (host := "") (Or.inl (hw _ (List.mem_of_getElem? (i := 21) rfl))) Via.refl e1 pF_linkedPairs_a1 (g := (mkF m 5 #[.val (.ref a1)] [(.ref a1), (.long x)])) rfl rfl (hb hby d5_5)
  refine own_st st2 ?_
  show own_Go p e below T2 (mkF m 8 #[.val (.ref a1)] [(.long y), (.long x)]) _
  obtain ⟨_, _, ⟨T3, L3, k3, n3⟩, -, X3, ⟨Lc3, hQ3, l3, y3, z3⟩, st3⟩ := Jvm.LawKit.callS X2 hx (y := (⟨"com/example/goldweave/goldweave/engine/evaluation/PairwiseAccuracy", "ratio", "(JJ)D"⟩ : MethodName)) hown (mvT hZ (hw _ (List.mem_of_getElem? (i := 30) rfl))) (mvT hZ (hw _ (List.mem_of_getElem? (i := 31) rfl))) (mvT hZ (hw _ (List.mem_of_getElem? (i := 7) rfl))) (mvT hZ (hw _ (List.mem_of_getElem? (i := 32) rfl))) (by decide) (backOf (W := 0) (rmRa1 l Z a0 hw [] x y h0 n0 Z0 h1 h2) hZ (hw _ (List.mem_of_getElem? (i := 32) rfl)) (hw _ (List.mem_of_getElem? (i := 7) rfl)) (by decide) (by decide)) (g := (mkF m 8 #[.val (.ref a1)] [(.long y), (.long x)])) rfl (by rw [hml]; rfl) (argsL := [(.long x), (.long y)]) (rest := []) (lenOf pd__JJ_D rfl) rfl (by show 2 * 0 + _ ≤ _; exact Nat.le_of_eq rfl) (hb hby d5_8) (fun _ _ => ⟨rfl, e2, (by decide : 0 + 0 ≤ _), (by decide : 0 + 0 ≤ _)⟩)
  dsimp only [Pt.U, Pt.locs, Pt.cells, Pt.slots] at X3 l3 y3 z3 st3 hQ3
  subst l3 y3 z3
  obtain ⟨rfl, Nq3, eH3⟩ := hQ3
  have N3 := Fr.app N0 Nq3
  refine own_st st3 ?_
  show own_Go p e below T3 (mkF m 11 #[.val (.ref a1)] [(.double (FP.ddiv (FP.l2d x) (FP.l2d y)))]) _
  obtain ⟨fs, hr, hrun, hended, hW, hsame⟩ := X3.leave (v := some (.double (FP.ddiv (FP.l2d x) (FP.l2d y)))) (fun h => by rw [Bd.returns] at h; cases h)
  refine own_fin (own_retD X3 hx Bd.returns (hb hby d5_11) hr) ⟨hrun, hended, _, _, rfl, ?_, ⟨_, rfl⟩, hW, hsame.mono (by decide) (by decide)⟩
  show Q_rmRe1 Z a1 x y h0 n0 _ T3.heap _
  rw [eH3]
  exact ⟨rfl, N3, rfl⟩
theorem own_maxL (x : Int64) : 0 ≤ (x &&& (9223372036854775807 : Int64)).toInt := (c_andSL x 9223372036854775807).2.2 (by decide)
theorem own_rem {x t : Int64} (hx : 0 ≤ x.toInt) (ht : 0 < t.toInt) : 0 ≤ (x - (x / t) * t).toInt ∧ (x - (x / t) * t).toInt ≤ t.toInt := by
  have h := (c_lrem x t t.toInt rfl).1 hx
  have h1 := Int.emod_nonneg x.toInt (show t.toInt ≠ 0 by omega)
  have h2 := Int.emod_lt_of_pos x.toInt ht
  omega
theorem own_pos0 {t : Int64} (h0 : 0 ≤ t.toInt) (h : ¬ lcmpW t (0 : Int64) = (0 : Int32)) : 0 < t.toInt := by
  have : ¬ t = 0 := fun q => h ((lw_eq _ _).mpr q)
  have h2 : t.toInt ≠ 0 := fun q => this (Int64.toInt_inj.mp q)
  omega
section OwnQ2
open Jvm.FP.Core
theorem own_q_eq0 {c t : Int64} (hc : lcmpW c (0 : Int64) = (0 : Int32)) (ht : 0 < t.toInt) : cmpValue (FP.dcmp (FP.ddiv (FP.l2d c) (FP.l2d t)) FP.dconst0) .l = (0 : Int32) := by
  have hz := (lw_eq _ _).mp hc
  subst hz
  have h0 : 0 ≤ (0 : Int64).toInt := by decide
  obtain ⟨D, r, e, hD⟩ := own_pos_fin ht
  obtain ⟨A, q, e2, -⟩ := own_val_l2d h0
  have hle := own_div_le e2 e hD own_zero_nn (by rw [show val64 (l2d 0) = val64 0 from by rw [FP.Core.l2d_zero], show zmag b64 (val64 (0 : UInt64)) = 0 from by decide +kernel, Nat.zero_mul]; exact Nat.zero_le _)
  rw [own_zero_zmag] at hle
  have h := dcmp_zval (own_q_val h0 ht) own_zero_nn
  rw [own_q_zval h0 ht, show zval b64 (val64 dconst0) = 0 from by decide +kernel] at h
  show cmpValue (dcmp (ddiv (l2d 0) (l2d t)) dconst0) .l = (0 : Int32)
  rw [h, (compare_eq_iff _ _).mpr (by omega)]
  rfl
theorem own_q_gt0 {c t : Int64} (hc : 0 < c.toInt) (ht : 0 < t.toInt) : cmpValue (FP.dcmp (FP.ddiv (FP.l2d c) (FP.l2d t)) FP.dconst0) .l = (1 : Int32) := by
  have h0 : 0 ≤ c.toInt := by omega
  obtain ⟨D, r, e, hD⟩ := own_pos_fin ht
  obtain ⟨A, q, e2, -⟩ := own_val_l2d h0
  have rt := rng64 t
  -- the dividend is at least 1, the divisor at most 2^63: the quotient is at least 2^-63
  have hc1 : one64 ≤ zmag b64 (val64 (l2d c)) := by
    have h1 := l2d_zval_ge (n := c) (V := dconst1) own_one_nn (by
      rw [show zval b64 (val64 dconst1) = (one64 : Int) from by decide +kernel]
      exact Int.le_trans (Int.le_of_eq (Int.one_mul _).symm) (Int.mul_le_mul_of_nonneg_right (by omega) (Int.natCast_nonneg _)))
    rw [show zval b64 (val64 dconst1) = (one64 : Int) from by decide +kernel, show zval b64 (val64 (l2d c)) = (zmag b64 (val64 (l2d c)) : Int) from by rw [e2]; rfl] at h1
    omega
  have ht1 : zmag b64 (val64 (l2d t)) ≤ 9223372036854775808 * one64 := by
    have h1 := l2d_zval_le (n := t) (V := (4890909195324358656 : UInt64)) (by decide +kernel) (by
      rw [show zval b64 (val64 (4890909195324358656 : UInt64)) = ((9223372036854775808 : Nat) : Int) * (one64 : Int) from by decide +kernel]
      exact Int.mul_le_mul_of_nonneg_right (by omega) (Int.natCast_nonneg _))
    rw [show zval b64 (val64 (4890909195324358656 : UInt64)) = ((9223372036854775808 : Nat) : Int) * (one64 : Int) from by decide +kernel, show zval b64 (val64 (l2d t)) = (zmag b64 (val64 (l2d t)) : Int) from by rw [e]; rfl, ← Int.natCast_mul] at h1
    exact Int.ofNat_le.mp h1
  have hge := own_div_ge (V := (1 : UInt64)) e2 e hD (by
    rw [show zmag b64 (val64 (1 : UInt64)) = 1 from by decide +kernel, Nat.one_mul]
    refine Nat.le_trans ht1 (Nat.mul_le_mul_right _ (Nat.le_trans ?_ hc1))
    decide +kernel)
  rw [show zmag b64 (val64 (1 : UInt64)) = 1 from by decide +kernel] at hge
  have h := dcmp_zval (own_q_val h0 ht) own_zero_nn
  rw [own_q_zval h0 ht, show zval b64 (val64 dconst0) = 0 from by decide +kernel] at h
  show cmpValue (dcmp (ddiv (l2d c) (l2d t)) dconst0) .l = (1 : Int32)
  rw [h, (compare_gt_iff _ _).mpr (by omega)]
  rfl
theorem own_q_eq1 {c t : Int64} (hc : lcmpW c t = (0 : Int32)) (ht : 0 < t.toInt) : cmpValue (FP.dcmp (FP.ddiv (FP.l2d c) (FP.l2d t)) FP.dconst1) .l = (0 : Int32) := by
  have hz := (lw_eq _ _).mp hc
  subst hz
  have h0 : 0 ≤ c.toInt := by omega
  obtain ⟨D, r, e, hD⟩ := own_pos_fin ht
  have hle := own_div_le e e hD own_one_nn (by rw [own_one_zmag, Nat.mul_comm]; exact Nat.le_refl _)
  have hge := own_div_ge (V := dconst1) e e hD (by rw [own_one_zmag, Nat.mul_comm]; exact Nat.le_refl _)
  have h := dcmp_zval (own_q_val h0 ht) own_one_nn
  have h1 : zval b64 (val64 dconst1) = (zmag b64 (val64 dconst1) : Int) := by decide +kernel
  rw [own_q_zval h0 ht, h1] at h
  show cmpValue (dcmp (ddiv (l2d c) (l2d c)) dconst1) .l = (0 : Int32)
  rw [h, (compare_eq_iff _ _).mpr (by omega)]
  rfl
end OwnQ2
theorem pn_0 : plainName "com/example/goldweave/goldweave/engine/evaluation/PairwiseAccuracyPrecisionPinLaw" = true := by first | (simp [plainName, overriddenIn]; done) | decide +kernel
theorem pd__JJ_J : parseMethodDescriptor "(JJ)J" = some ⟨[.long, .long], some .long⟩ := by decide +kernel
theorem pd__JJJ_V : parseMethodDescriptor "(JJJ)V" = some ⟨[.long, .long, .long], none⟩ := by decide +kernel
theorem pd___D : parseMethodDescriptor "()D" = some ⟨[], some .double⟩ := by decide +kernel
theorem ef_rmLaw (m : MethodId) (x0 : Int64) (x1 : Int64) (x2 : Int64) (x3 : Int32) : entryFrame m #[(.long x0), (.long x1), (.long x2), (.int x3)] maxLocals = mkF m 0 #[.val (.long x0), .second, .val (.long x1), .second, .val (.long x2), .second, .val (.int x3), .unset, .unset, .unset, .unset, .unset, .unset, .unset, .unset, .unset, .unset, .unset, .unset] [] := by first | (simp [entryFrame, mkF, argsToLocals, Value.category, maxLocals]; done) | rfl
def Q_rmLaw (Z : State) (p0 : Int64) (p1 : Int64) (p2 : Int64) (p3 : Int32) (h0 : Heap) (n0 : Nat) (v : Option Value) (h : Heap) (L : List Loc) : Prop := v = some (.int (1 : Int32)) ∧ Fr n0 L ∧ Keep h0 h []
set_option maxRecDepth 65536 in
set_option maxHeartbeats 40000000 in
theorem rmLaw (l : Launch) (Z : State) (a0 : Array Value) (hw : ∀ d ∈ tables_1, d.before a0 Z = true) (ws : List Jvm.Cond) (p0 : Int64) (p1 : Int64) (p2 : Int64) (p3 : Int32) (h0 : Heap) (n0 : Nat) (Z0 : n0 ≤ h0.size) :
    MetFree l x (head1 (Jvm.Cond.code x code maxLocals ret :: ws) room_1) (fun a U => a = #[(.long p0), (.long p1), (.long p2), (.int p3)] ∧ Z.Warmed39 U.vm ∧ U.heap = h0) (fun _ _ _ _ _ => True) (fun _ U o U' => ∃ v L, o = .returned v ∧ Q_rmLaw Z p0 p1 p2 p3 h0 n0 v U'.heap L ∧ FrameEnd U o U' L 16 128) := by
  refine MetFree.of_bodySF (plainFor_of_name pn_0) hisR ?_
  intro p e s m args below meth c s₁ Bd hml0 hP hK
  obtain ⟨rfl, hZ, hh⟩ := hP
  have hx := Bd.exec
  have hby := Bd.bytes
  have hml : c.maxLocals = 19 := hml0
  have hown : s.vm.findClass "com/example/goldweave/goldweave/engine/evaluation/PairwiseAccuracyPrecisionPinLaw" = some m.cls := findClass_of_methodNamed Bd.named
  have hnm := (name_of_methodNamed Bd.named Bd.method).1
  have X0 : Stand p l e room_1 s m #[(.long p0), (.long p1), (.long p2), (.int p3)] below meth c s₁ [] 0 0 := Stand.of_body Bd
  have e0 : s₁.heap = h0 := by rw [← hh, Bd.state]; rfl
  have N0 := Fr.nil n0
  refine own_enter (ef_rmLaw m p0 p1 p2 p3) ?_
  refine own_st (fun t_ k_ => XS.iload X0.here hx rfl (hb hby at_0) rfl k_) ?_
  show own_Go p e below s₁ (mkF m 2 #[.val (.long p0), .second, .val (.long p1), .second, .val (.long p2), .second, .val (.int p3), .unset, .unset, .unset, .unset, .unset, .unset, .unset, .unset, .unset, .unset, .unset, .unset] [(.int p3)]) _
  refine own_st (fun t_ k_ => XS.iconst X0.here hx rfl (hb hby at_2) k_) ?_
  show own_Go p e below s₁ (mkF m 3 #[.val (.long p0), .second, .val (.long p1), .second, .val (.long p2), .second, .val (.int p3), .unset, .unset, .unset, .unset, .unset, .unset, .unset, .unset, .unset, .unset, .unset, .unset] [(.int (3 : Int32)), (.int p3)]) _
  refine own_st (fun t_ k_ => XS.iand X0.here hx rfl (hb hby at_3) rfl k_) ?_
  show own_Go p e below s₁ (mkF m 4 #[.val (.long p0), .second, .val (.long p1), .second, .val (.long p2), .second, .val (.int p3), .unset, .unset, .unset, .unset, .unset, .unset, .unset, .unset, .unset, .unset, .unset, .unset] [(.int (p3 &&& (3 : Int32)))]) _
  by_cases hm : (p3 &&& (3 : Int32)) = (0 : Int32)
  · skip
    refine own_st (fun t_ k_ => XS.ifNo X0.here hx rfl (hb hby at_4) rfl ((if0 _ _).trans (teq hm).2) k_) ?_
    show own_Go p e below s₁ (mkF m 7 #[.val (.long p0), .second, .val (.long p1), .second, .val (.long p2), .second, .val (.int p3), .unset, .unset, .unset, .unset, .unset, .unset, .unset, .unset, .unset, .unset, .unset, .unset] []) _
    refine own_st (fun t_ k_ => XS.lconst X0.here hx rfl (hb hby at_7) k_) ?_
    show own_Go p e below s₁ (mkF m 8 #[.val (.long p0), .second, .val (.long p1), .second, .val (.long p2), .second, .val (.int p3), .unset, .unset, .unset, .unset, .unset, .unset, .unset, .unset, .unset, .unset, .unset, .unset] [(.long (0 : Int64))]) _
    refine own_st (fun t_ k_ => XS.goto X0.here hx rfl (pc0 := 8) (pc' := 16) rfl (hb hby at_8) (by decide) (by decide) k_) ?_
    show own_Go p e below s₁ (mkF m 16 #[.val (.long p0), .second, .val (.long p1), .second, .val (.long p2), .second, .val (.int p3), .unset, .unset, .unset, .unset, .unset, .unset, .unset, .unset, .unset, .unset, .unset, .unset] [(.long (0 : Int64))]) _
    refine own_st (fun t_ k_ => XS.lstore X0.here hx rfl (hb hby at_16) rfl (l' := #[.val (.long p0), .second, .val (.long p1), .second, .val (.long p2), .second, .val (.int p3), .val (.long (0 : Int64)), .second, .unset, .unset, .unset, .unset, .unset, .unset, .unset, .unset, .unset, .unset]) rfl k_) ?_
    show own_Go p e below s₁ (mkF m 18 #[.val (.long p0), .second, .val (.long p1), .second, .val (.long p2), .second, .val (.int p3), .val (.long (0 : Int64)), .second, .unset, .unset, .unset, .unset, .unset, .unset, .unset, .unset, .unset, .unset] []) _
    refine own_st (fun t_ k_ => XS.iload X0.here hx rfl (hb hby at_18) rfl k_) ?_
    show own_Go p e below s₁ (mkF m 20 #[.val (.long p0), .second, .val (.long p1), .second, .val (.long p2), .second, .val (.int p3), .val (.long (0 : Int64)), .second, .unset, .unset, .unset, .unset, .unset, .unset, .unset, .unset, .unset, .unset] [(.int p3)]) _
    refine own_st (fun t_ k_ => XS.iconst X0.here hx rfl (hb hby at_20) k_) ?_
    show own_Go p e below s₁ (mkF m 21 #[.val (.long p0), .second, .val (.long p1), .second, .val (.long p2), .second, .val (.int p3), .val (.long (0 : Int64)), .second, .unset, .unset, .unset, .unset, .unset, .unset, .unset, .unset, .unset, .unset] [(.int (2 : Int32)), (.int p3)]) _
    refine own_st (fun t_ k_ => XS.iushr X0.here hx rfl (hb hby at_21) rfl k_) ?_
    show own_Go p e below s₁ (mkF m 22 #[.val (.long p0), .second, .val (.long p1), .second, .val (.long p2), .second, .val (.int p3), .val (.long (0 : Int64)), .second, .unset, .unset, .unset, .unset, .unset, .unset, .unset, .unset, .unset, .unset] [(.int ((p3.toUInt32 >>> ((2 : Int32) &&& 31).toUInt32).toInt32))]) _
    refine own_st (fun t_ k_ => XS.iconst X0.here hx rfl (hb hby at_22) k_) ?_
    show own_Go p e below s₁ (mkF m 23 #[.val (.long p0), .second, .val (.long p1), .second, .val (.long p2), .second, .val (.int p3), .val (.long (0 : Int64)), .second, .unset, .unset, .unset, .unset, .unset, .unset, .unset, .unset, .unset, .unset] [(.int (3 : Int32)), (.int ((p3.toUInt32 >>> ((2 : Int32) &&& 31).toUInt32).toInt32))]) _
    refine own_st (fun t_ k_ => XS.iand X0.here hx rfl (hb hby at_23) rfl k_) ?_
    show own_Go p e below s₁ (mkF m 24 #[.val (.long p0), .second, .val (.long p1), .second, .val (.long p2), .second, .val (.int p3), .val (.long (0 : Int64)), .second, .unset, .unset, .unset, .unset, .unset, .unset, .unset, .unset, .unset, .unset] [(.int (((p3.toUInt32 >>> ((2 : Int32) &&& 31).toUInt32).toInt32) &&& (3 : Int32)))]) _
    refine own_st (fun t_ k_ => XS.istore X0.here hx rfl (hb hby at_24) rfl (l' := #[.val (.long p0), .second, .val (.long p1), .second, .val (.long p2), .second, .val (.int p3), .val (.long (0 : Int64)), .second, .val (.int (((p3.toUInt32 >>> ((2 : Int32) &&& 31).toUInt32).toInt32) &&& (3 : Int32))), .unset, .unset, .unset, .unset, .unset, .unset, .unset, .unset, .unset]) rfl k_) ?_
    show own_Go p e below s₁ (mkF m 26 #[.val (.long p0), .second, .val (.long p1), .second, .val (.long p2), .second, .val (.int p3), .val (.long (0 : Int64)), .second, .val (.int (((p3.toUInt32 >>> ((2 : Int32) &&& 31).toUInt32).toInt32) &&& (3 : Int32))), .unset, .unset, .unset, .unset, .unset, .unset, .unset, .unset, .unset] []) _
    refine own_st (fun t_ k_ => XS.lload X0.here hx rfl (hb hby at_26) rfl k_) ?_
    show own_Go p e below s₁ (mkF m 28 #[.val (.long p0), .second, .val (.long p1), .second, .val (.long p2), .second, .val (.int p3), .val (.long (0 : Int64)), .second, .val (.int (((p3.toUInt32 >>> ((2 : Int32) &&& 31).toUInt32).toInt32) &&& (3 : Int32))), .unset, .unset, .unset, .unset, .unset, .unset, .unset, .unset, .unset] [(.long (0 : Int64))]) _
    refine own_st (fun t_ k_ => XS.lconst X0.here hx rfl (hb hby at_28) k_) ?_
    show own_Go p e below s₁ (mkF m 29 #[.val (.long p0), .second, .val (.long p1), .second, .val (.long p2), .second, .val (.int p3), .val (.long (0 : Int64)), .second, .val (.int (((p3.toUInt32 >>> ((2 : Int32) &&& 31).toUInt32).toInt32) &&& (3 : Int32))), .unset, .unset, .unset, .unset, .unset, .unset, .unset, .unset, .unset] [(.long (0 : Int64)), (.long (0 : Int64))]) _
    refine own_st (fun t_ k_ => XS.lcmp X0.here hx rfl (hb hby at_29) rfl k_) ?_
    show own_Go p e below s₁ (mkF m 30 #[.val (.long p0), .second, .val (.long p1), .second, .val (.long p2), .second, .val (.int p3), .val (.long (0 : Int64)), .second, .val (.int (((p3.toUInt32 >>> ((2 : Int32) &&& 31).toUInt32).toInt32) &&& (3 : Int32))), .unset, .unset, .unset, .unset, .unset, .unset, .unset, .unset, .unset] [(.int (lcmpW (0 : Int64) (0 : Int64)))]) _
    refine own_st (fun t_ k_ => XS.ifNo X0.here hx rfl (hb hby at_30) rfl ((if0 _ _).trans (teq ((lw_eq _ _).mpr rfl)).2) k_) ?_
    show own_Go p e below s₁ (mkF m 33 #[.val (.long p0), .second, .val (.long p1), .second, .val (.long p2), .second, .val (.int p3), .val (.long (0 : Int64)), .second, .val (.int (((p3.toUInt32 >>> ((2 : Int32) &&& 31).toUInt32).toInt32) &&& (3 : Int32))), .unset, .unset, .unset, .unset, .unset, .unset, .unset, .unset, .unset] []) _
    refine own_st (fun t_ k_ => XS.lconst X0.here hx rfl (hb hby at_33) k_) ?_
    show own_Go p e below s₁ (mkF m 34 #[.val (.long p0), .second, .val (.long p1), .second, .val (.long p2), .second, .val (.int p3), .val (.long (0 : Int64)), .second, .val (.int (((p3.toUInt32 >>> ((2 : Int32) &&& 31).toUInt32).toInt32) &&& (3 : Int32))), .unset, .unset, .unset, .unset, .unset, .unset, .unset, .unset, .unset] [(.long (0 : Int64))]) _
    refine own_st (fun t_ k_ => XS.lstore X0.here hx rfl (hb hby at_34) rfl (l' := #[.val (.long p0), .second, .val (.long p1), .second, .val (.long p2), .second, .val (.int p3), .val (.long (0 : Int64)), .second, .val (.int (((p3.toUInt32 >>> ((2 : Int32) &&& 31).toUInt32).toInt32) &&& (3 : Int32))), .val (.long (0 : Int64)), .second, .unset, .unset, .unset, .unset, .unset, .unset, .unset]) rfl k_) ?_
    show own_Go p e below s₁ (mkF m 36 #[.val (.long p0), .second, .val (.long p1), .second, .val (.long p2), .second, .val (.int p3), .val (.long (0 : Int64)), .second, .val (.int (((p3.toUInt32 >>> ((2 : Int32) &&& 31).toUInt32).toInt32) &&& (3 : Int32))), .val (.long (0 : Int64)), .second, .unset, .unset, .unset, .unset, .unset, .unset, .unset] []) _
    refine own_st (fun t_ k_ => XS.goto X0.here hx rfl (pc0 := 36) (pc' := 74) rfl (hb hby at_36) (by decide) (by decide) k_) ?_
    show own_Go p e below s₁ (mkF m 74 #[.val (.long p0), .second, .val (.long p1), .second, .val (.long p2), .second, .val (.int p3), .val (.long (0 : Int64)), .second, .val (.int (((p3.toUInt32 >>> ((2 : Int32) &&& 31).toUInt32).toInt32) &&& (3 : Int32))), .val (.long (0 : Int64)), .second, .unset, .unset, .unset, .unset, .unset, .unset, .unset] []) _
    have hc0 : 0 ≤ (0 : Int64).toInt := by decide
    refine own_st (fun t_ k_ => XS.lload X0.here hx rfl (hb hby at_74) rfl k_) ?_
    show own_Go p e below s₁ (mkF m 76 #[.val (.long p0), .second, .val (.long p1), .second, .val (.long p2), .second, .val (.int p3), .val (.long (0 : Int64)), .second, .val (.int (((p3.toUInt32 >>> ((2 : Int32) &&& 31).toUInt32).toInt32) &&& (3 : Int32))), .val (.long (0 : Int64)), .second, .unset, .unset, .unset, .unset, .unset, .unset, .unset] [(.long (0 : Int64))]) _
    refine own_st (fun t_ k_ => XS.lloadN X0.here hx rfl (hb hby at_76) rfl k_) ?_
    show own_Go p e below s₁ (mkF m 77 #[.val (.long p0), .second, .val (.long p1), .second, .val (.long p2), .second, .val (.int p3), .val (.long (0 : Int64)), .second, .val (.int (((p3.toUInt32 >>> ((2 : Int32) &&& 31).toUInt32).toInt32) &&& (3 : Int32))), .val (.long (0 : Int64)), .second, .unset, .unset, .unset, .unset, .unset, .unset, .unset] [(.long p1), (.long (0 : Int64))]) _
    refine own_st (fun t_ k_ => X0.ldc2Long hx hown (mvT hZ (hw _ (List.mem_of_getElem? (i := 0) rfl))) (g := (mkF m 77 #[.val (.long p0), .second, .val (.long p1), .second, .val (.long p2), .second, .val (.int p3), .val (.long (0 : Int64)), .second, .val (.int (((p3.toUInt32 >>> ((2 : Int32) &&& 31).toUInt32).toInt32) &&& (3 : Int32))), .val (.long (0 : Int64)), .second, .unset, .unset, .unset, .unset, .unset, .unset, .unset] [(.long p1), (.long (0 : Int64))])) rfl (hb hby at_77) _ k_) ?_
    show own_Go p e below s₁ (mkF m 80 #[.val (.long p0), .second, .val (.long p1), .second, .val (.long p2), .second, .val (.int p3), .val (.long (0 : Int64)), .second, .val (.int (((p3.toUInt32 >>> ((2 : Int32) &&& 31).toUInt32).toInt32) &&& (3 : Int32))), .val (.long (0 : Int64)), .second, .unset, .unset, .unset, .unset, .unset, .unset, .unset] [(.long (9223372036854775807 : Int64)), (.long p1), (.long (0 : Int64))]) _
    refine own_st (fun t_ k_ => XS.land X0.here hx rfl (hb hby at_80) rfl k_) ?_
    show own_Go p e below s₁ (mkF m 81 #[.val (.long p0), .second, .val (.long p1), .second, .val (.long p2), .second, .val (.int p3), .val (.long (0 : Int64)), .second, .val (.int (((p3.toUInt32 >>> ((2 : Int32) &&& 31).toUInt32).toInt32) &&& (3 : Int32))), .val (.long (0 : Int64)), .second, .unset, .unset, .unset, .unset, .unset, .unset, .unset] [(.long (p1 &&& (9223372036854775807 : Int64))), (.long (0 : Int64))]) _
    obtain ⟨_, _, ⟨T1, L1, k1, n1⟩, -, X1, ⟨Lc1, hQ1, l1, y1, z1⟩, st1⟩ := Jvm.LawKit.callS X0 hx (y := (⟨"java/lang/Math", "max", "(JJ)J"⟩ : MethodName)) hown (mvT hZ (hw _ (List.mem_of_getElem? (i := 1) rfl))) (mvT hZ (hw _ (List.mem_of_getElem? (i := 2) rfl))) (mvT hZ (hw _ (List.mem_of_getElem? (i := 3) rfl))) (mvT hZ (hw _ (List.mem_of_getElem? (i := 4) rfl))) (by decide) (backOf (W := 0) (rmMax l Z a0 hw [] ((0 : Int64)) ((p1 &&& (9223372036854775807 : Int64))) h0 n0 Z0 ) hZ (hw _ (List.mem_of_getElem? (i := 4) rfl)) (hw _ (List.mem_of_getElem? (i := 3) rfl)) (by decide) (by decide)) (g := (mkF m 81 #[.val (.long p0), .second, .val (.long p1), .second, .val (.long p2), .second, .val (.int p3), .val (.long (0 : Int64)), .second, .val (.int (((p3.toUInt32 >>> ((2 : Int32) &&& 31).toUInt32).toInt32) &&& (3 : Int32))), .val (.long (0 : Int64)), .second, .unset, .unset, .unset, .unset, .unset, .unset, .unset] [(.long (p1 &&& (9223372036854775807 : Int64))), (.long (0 : Int64))])) rfl (by rw [hml]; rfl) (argsL := [(.long (0 : Int64)), (.long (p1 &&& (9223372036854775807 : Int64)))]) (rest := []) (lenOf pd__JJ_J rfl) rfl (by show 2 * 0 + _ ≤ _; exact Nat.le_of_eq rfl) (hb hby at_81) (fun _ _ => ⟨rfl, e0, (by decide : 0 + 0 ≤ _), (by decide : 0 + 0 ≤ _)⟩)
    dsimp only [Pt.U, Pt.locs, Pt.cells, Pt.slots] at X1 l1 y1 z1 st1 hQ1
    subst l1 y1 z1
    obtain ⟨r_1, rfl, Nq1, eH1, q1_0⟩ := hQ1
    have N1 := Fr.app N0 Nq1
    refine own_st st1 ?_
    show own_Go p e below T1 (mkF m 84 #[.val (.long p0), .second, .val (.long p1), .second, .val (.long p2), .second, .val (.int p3), .val (.long (0 : Int64)), .second, .val (.int (((p3.toUInt32 >>> ((2 : Int32) &&& 31).toUInt32).toInt32) &&& (3 : Int32))), .val (.long (0 : Int64)), .second, .unset, .unset, .unset, .unset, .unset, .unset, .unset] [(.long r_1)]) _
    refine own_st (fun t_ k_ => XS.lstore X1.here hx rfl (hb hby at_84) rfl (l' := #[.val (.long p0), .second, .val (.long p1), .second, .val (.long p2), .second, .val (.int p3), .val (.long (0 : Int64)), .second, .val (.int (((p3.toUInt32 >>> ((2 : Int32) &&& 31).toUInt32).toInt32) &&& (3 : Int32))), .val (.long (0 : Int64)), .second, .val (.long r_1), .second, .unset, .unset, .unset, .unset, .unset]) rfl k_) ?_
    show own_Go p e below T1 (mkF m 86 #[.val (.long p0), .second, .val (.long p1), .second, .val (.long p2), .second, .val (.int p3), .val (.long (0 : Int64)), .second, .val (.int (((p3.toUInt32 >>> ((2 : Int32) &&& 31).toUInt32).toInt32) &&& (3 : Int32))), .val (.long (0 : Int64)), .second, .val (.long r_1), .second, .unset, .unset, .unset, .unset, .unset] []) _
    obtain ⟨T2, h2, X2, e2, E2, A2, D2, -, st2⟩ := newO X1 hx hZ hown (hw _ (List.mem_of_getElem? (i := 5) rfl)) (hw _ (List.mem_of_getElem? (i := 6) rfl)) (hw _ (List.mem_of_getElem? (i := 7) rfl)) eH1 (g := (mkF m 86 #[.val (.long p0), .second, .val (.long p1), .second, .val (.long p2), .second, .val (.int p3), .val (.long (0 : Int64)), .second, .val (.int (((p3.toUInt32 >>> ((2 : Int32) &&& 31).toUInt32).toInt32) &&& (3 : Int32))), .val (.long (0 : Int64)), .second, .val (.long r_1), .second, .unset, .unset, .unset, .unset, .unset] [])) rfl (hb hby at_86) (by decide) (by decide)
    obtain ⟨b2, g2⟩ : ∃ z, z = h0.size := ⟨_, rfl⟩
    rw [← g2] at A2 D2 st2
    have G2 : n0 ≤ b2 := Nat.le_trans Z0 (Nat.le_of_eq g2.symm)
    have B2 : h0.size ≤ b2 := Nat.le_trans (Keep.refl h0 []).1 (Nat.le_of_eq g2.symm)
    have K3 : Keep h0 h2 [] := (Keep.refl h0 []).ext E2
    have D2_truePairs : Fld Z h2 b2 "com/example/goldweave/goldweave/engine/evaluation/PairwiseAccuracy" "truePairs" "J" (.long (0 : Int64)) := D2 (Or.inr (hw _ (List.mem_of_getElem? (i := 20) rfl))) (ty := .long) (by decide)
    have D2_linkedPairs : Fld Z h2 b2 "com/example/goldweave/goldweave/engine/evaluation/PairwiseAccuracy" "linkedPairs" "J" (.long (0 : Int64)) := D2 (Or.inr (hw _ (List.mem_of_getElem? (i := 22) rfl))) (ty := .long) (by decide)
    have D2_correctPairs : Fld Z h2 b2 "com/example/goldweave/goldweave/engine/evaluation/PairwiseAccuracy" "correctPairs" "J" (.long (0 : Int64)) := D2 (Or.inr (hw _ (List.mem_of_getElem? (i := 24) rfl))) (ty := .long) (by decide)
    refine own_st st2 ?_
    show own_Go p e below T2 (mkF m 89 #[.val (.long p0), .second, .val (.long p1), .second, .val (.long p2), .second, .val (.int p3), .val (.long (0 : Int64)), .second, .val (.int (((p3.toUInt32 >>> ((2 : Int32) &&& 31).toUInt32).toInt32) &&& (3 : Int32))), .val (.long (0 : Int64)), .second, .val (.long r_1), .second, .unset, .unset, .unset, .unset, .unset] [(.ref b2)]) _
    refine own_st (fun t_ k_ => XS.dup X2.here hx rfl (hb hby at_89) rfl rfl k_) ?_
    show own_Go p e below T2 (mkF m 90 #[.val (.long p0), .second, .val (.long p1), .second, .val (.long p2), .second, .val (.int p3), .val (.long (0 : Int64)), .second, .val (.int (((p3.toUInt32 >>> ((2 : Int32) &&& 31).toUInt32).toInt32) &&& (3 : Int32))), .val (.long (0 : Int64)), .second, .val (.long r_1), .second, .unset, .unset, .unset, .unset, .unset] [(.ref b2), (.ref b2)]) _
    refine own_st (fun t_ k_ => XS.lload X2.here hx rfl (hb hby at_90) rfl k_) ?_
    show own_Go p e below T2 (mkF m 92 #[.val (.long p0), .second, .val (.long p1), .second, .val (.long p2), .second, .val (.int p3), .val (.long (0 : Int64)), .second, .val (.int (((p3.toUInt32 >>> ((2 : Int32) &&& 31).toUInt32).toInt32) &&& (3 : Int32))), .val (.long (0 : Int64)), .second, .val (.long r_1), .second, .unset, .unset, .unset, .unset, .unset] [(.long r_1), (.ref b2), (.ref b2)]) _
    refine own_st (fun t_ k_ => XS.lload X2.here hx rfl (hb hby at_92) rfl k_) ?_
    show own_Go p e below T2 (mkF m 94 #[.val (.long p0), .second, .val (.long p1), .second, .val (.long p2), .second, .val (.int p3), .val (.long (0 : Int64)), .second, .val (.int (((p3.toUInt32 >>> ((2 : Int32) &&& 31).toUInt32).toInt32) &&& (3 : Int32))), .val (.long (0 : Int64)), .second, .val (.long r_1), .second, .unset, .unset, .unset, .unset, .unset] [(.long (0 : Int64)), (.long r_1), (.ref b2), (.ref b2)]) _
    refine own_st (fun t_ k_ => XS.lload X2.here hx rfl (hb hby at_94) rfl k_) ?_
    show own_Go p e below T2 (mkF m 96 #[.val (.long p0), .second, .val (.long p1), .second, .val (.long p2), .second, .val (.int p3), .val (.long (0 : Int64)), .second, .val (.int (((p3.toUInt32 >>> ((2 : Int32) &&& 31).toUInt32).toInt32) &&& (3 : Int32))), .val (.long (0 : Int64)), .second, .val (.long r_1), .second, .unset, .unset, .unset, .unset, .unset] [(.long (0 : Int64)), (.long (0 : Int64)), (.long r_1), (.ref b2), (.ref b2)]) _
    have f4 := (Nat.le_trans Z0 E2.1)
    obtain ⟨_, _, ⟨T5, L5, k5, n5⟩, -, X5, ⟨Lc5, hQ5, l5, y5, z5⟩, st5⟩ := X2.specialBack hx (y := (⟨"com/example/goldweave/goldweave/engine/evaluation/PairwiseAccuracy", "<init>", "(JJJ)V"⟩ : MethodName)) rfl hown (mvT hZ (hw _ (List.mem_of_getElem? (i := 8) rfl))) (mvT hZ (hw _ (List.mem_of_getElem? (i := 9) rfl))) (mvT hZ (hw _ (List.mem_of_getElem? (i := 10) rfl))) (by decide) (backOf (W := 1) (rmPA l Z a0 hw [] b2 r_1 ((0 : Int64)) ((0 : Int64)) ((.long (0 : Int64))) ((.long (0 : Int64))) ((.long (0 : Int64))) h2 n0 f4 A2 D2_truePairs D2_linkedPairs D2_correctPairs G2 hc0 q1_0.1 (Int.le_refl _)) hZ (hw _ (List.mem_of_getElem? (i := 10) rfl)) (hw _ (List.mem_of_getElem? (i := 7) rfl)) (by decide) (by decide)) (g := (mkF m 96 #[.val (.long p0), .second, .val (.long p1), .second, .val (.long p2), .second, .val (.int p3), .val (.long (0 : Int64)), .second, .val (.int (((p3.toUInt32 >>> ((2 : Int32) &&& 31).toUInt32).toInt32) &&& (3 : Int32))), .val (.long (0 : Int64)), .second, .val (.long r_1), .second, .unset, .unset, .unset, .unset, .unset] [(.long (0 : Int64)), (.long (0 : Int64)), (.long r_1), (.ref b2), (.ref b2)])) rfl (by rw [hml]; rfl) (Steps.refl _) (a := b2) (argsL := [(.long r_1), (.long (0 : Int64)), (.long (0 : Int64))]) (rest := [(.ref b2)]) (lenOf pd__JJJ_V rfl) rfl (by show 2 * 0 + _ ≤ _; exact Nat.le_of_eq rfl) (hb hby at_96) (fun _ _ => ⟨rfl, e2, (by decide : 1 + 0 ≤ _), (by decide : 3 + 0 ≤ _)⟩)
    dsimp only [Pt.U, Pt.locs, Pt.cells, Pt.slots] at X5 l5 y5 z5 st5 hQ5
    subst l5 y5 z5
    obtain ⟨rfl, Nq5, Kq5, q5_0, q5_1, q5_2, q5_3⟩ := hQ5
    have N5 := Fr.app N1 Nq5
    have K6 : Keep h0 T5.heap [] := K3.trans Kq5 (allS (Or.inr B2) all0)
    refine own_tr st5 ?_
    show own_Go p e below T5 (mkF m 99 #[.val (.long p0), .second, .val (.long p1), .second, .val (.long p2), .second, .val (.int p3), .val (.long (0 : Int64)), .second, .val (.int (((p3.toUInt32 >>> ((2 : Int32) &&& 31).toUInt32).toInt32) &&& (3 : Int32))), .val (.long (0 : Int64)), .second, .val (.long r_1), .second, .unset, .unset, .unset, .unset, .unset] [(.ref b2)]) _
    refine own_st (fun t_ k_ => XS.astore X5.here hx rfl (hb hby at_99) rfl rfl (l' := #[.val (.long p0), .second, .val (.long p1), .second, .val (.long p2), .second, .val (.int p3), .val (.long (0 : Int64)), .second, .val (.int (((p3.toUInt32 >>> ((2 : Int32) &&& 31).toUInt32).toInt32) &&& (3 : Int32))), .val (.long (0 : Int64)), .second, .val (.long r_1), .second, .val (.ref b2), .unset, .unset, .unset, .unset]) rfl k_) ?_
    show own_Go p e below T5 (mkF m 101 #[.val (.long p0), .second, .val (.long p1), .second, .val (.long p2), .second, .val (.int p3), .val (.long (0 : Int64)), .second, .val (.int (((p3.toUInt32 >>> ((2 : Int32) &&& 31).toUInt32).toInt32) &&& (3 : Int32))), .val (.long (0 : Int64)), .second, .val (.long r_1), .second, .val (.ref b2), .unset, .unset, .unset, .unset] []) _
    refine own_st (fun t_ k_ => XS.aload X5.here hx rfl (hb hby at_101) rfl rfl k_) ?_
    show own_Go p e below T5 (mkF m 103 #[.val (.long p0), .second, .val (.long p1), .second, .val (.long p2), .second, .val (.int p3), .val (.long (0 : Int64)), .second, .val (.int (((p3.toUInt32 >>> ((2 : Int32) &&& 31).toUInt32).toInt32) &&& (3 : Int32))), .val (.long (0 : Int64)), .second, .val (.long r_1), .second, .val (.ref b2), .unset, .unset, .unset, .unset] [(.ref b2)]) _
    have f7 := (Nat.le_trans f4 Kq5.1)
    obtain ⟨cq8, kq8, qa8, qb8, qc8⟩ := isOf hZ rfl q5_0
    obtain ⟨_, _, ⟨T8, L8, k8, n8⟩, -, X8, ⟨Lc8, hQ8, l8, y8, z8⟩, st8⟩ := X5.virtualBack hx (y := (⟨"com/example/goldweave/goldweave/engine/evaluation/PairwiseAccuracy", "precision", "()D"⟩ : MethodName)) (z := (⟨"com/example/goldweave/goldweave/engine/evaluation/PairwiseAccuracy", "precision", "()D"⟩ : MethodName)) hown (mvT hZ (hw _ (List.mem_of_getElem? (i := 25) rfl))) (mvT hZ (hw _ (List.mem_of_getElem? (i := 26) rfl))) (notFace_of_selects (args := #[]) (mvT hZ (hw _ (List.mem_of_getElem? (i := 28) rfl)))) (mvT hZ (hw _ (List.mem_of_getElem? (i := 28) rfl))) (mvT hZ (hw _ (List.mem_of_getElem? (i := 27) rfl))) (by decide) (backOf (W := 0) (rmRe0 l Z a0 hw [] b2 ((0 : Int64)) T5.heap n0 f7 q5_3 q5_2) hZ (hw _ (List.mem_of_getElem? (i := 29) rfl)) (hw _ (List.mem_of_getElem? (i := 7) rfl)) (by decide) (by decide)) qa8 qc8 (g := (mkF m 103 #[.val (.long p0), .second, .val (.long p1), .second, .val (.long p2), .second, .val (.int p3), .val (.long (0 : Int64)), .second, .val (.int (((p3.toUInt32 >>> ((2 : Int32) &&& 31).toUInt32).toInt32) &&& (3 : Int32))), .val (.long (0 : Int64)), .second, .val (.long r_1), .second, .val (.ref b2), .unset, .unset, .unset, .unset] [(.ref b2)])) rfl (by rw [hml]; rfl) (Steps.refl _) (argsL := []) (rest := []) (lenOf pd___D rfl) rfl (by show 2 * 0 + _ ≤ _; exact Nat.le_of_eq rfl) (hb hby at_103) (fun _ _ => ⟨rfl, rfl, (by decide : 1 + 0 ≤ _), (by decide : 3 + 0 ≤ _)⟩)
    dsimp only [Pt.U, Pt.locs, Pt.cells, Pt.slots] at X8 l8 y8 z8 st8 hQ8
    subst l8 y8 z8
    obtain ⟨rfl, Nq8, eH8⟩ := hQ8
    have N8 := Fr.app N5 Nq8
    refine own_tr st8 ?_
    show own_Go p e below T8 (mkF m 106 #[.val (.long p0), .second, .val (.long p1), .second, .val (.long p2), .second, .val (.int p3), .val (.long (0 : Int64)), .second, .val (.int (((p3.toUInt32 >>> ((2 : Int32) &&& 31).toUInt32).toInt32) &&& (3 : Int32))), .val (.long (0 : Int64)), .second, .val (.long r_1), .second, .val (.ref b2), .unset, .unset, .unset, .unset] [(.double FP.dconst0)]) _
    refine own_st (fun t_ k_ => XS.dstore X8.here hx rfl (hb hby at_106) rfl (l' := #[.val (.long p0), .second, .val (.long p1), .second, .val (.long p2), .second, .val (.int p3), .val (.long (0 : Int64)), .second, .val (.int (((p3.toUInt32 >>> ((2 : Int32) &&& 31).toUInt32).toInt32) &&& (3 : Int32))), .val (.long (0 : Int64)), .second, .val (.long r_1), .second, .val (.ref b2), .val (.double FP.dconst0), .second, .unset, .unset]) rfl k_) ?_
    show own_Go p e below T8 (mkF m 108 #[.val (.long p0), .second, .val (.long p1), .second, .val (.long p2), .second, .val (.int p3), .val (.long (0 : Int64)), .second, .val (.int (((p3.toUInt32 >>> ((2 : Int32) &&& 31).toUInt32).toInt32) &&& (3 : Int32))), .val (.long (0 : Int64)), .second, .val (.long r_1), .second, .val (.ref b2), .val (.double FP.dconst0), .second, .unset, .unset] []) _
    refine own_st (fun t_ k_ => XS.lload X8.here hx rfl (hb hby at_108) rfl k_) ?_
    show own_Go p e below T8 (mkF m 110 #[.val (.long p0), .second, .val (.long p1), .second, .val (.long p2), .second, .val (.int p3), .val (.long (0 : Int64)), .second, .val (.int (((p3.toUInt32 >>> ((2 : Int32) &&& 31).toUInt32).toInt32) &&& (3 : Int32))), .val (.long (0 : Int64)), .second, .val (.long r_1), .second, .val (.ref b2), .val (.double FP.dconst0), .second, .unset, .unset] [(.long (0 : Int64))]) _
    refine own_st (fun t_ k_ => XS.lconst X8.here hx rfl (hb hby at_110) k_) ?_
    show own_Go p e below T8 (mkF m 111 #[.val (.long p0), .second, .val (.long p1), .second, .val (.long p2), .second, .val (.int p3), .val (.long (0 : Int64)), .second, .val (.int (((p3.toUInt32 >>> ((2 : Int32) &&& 31).toUInt32).toInt32) &&& (3 : Int32))), .val (.long (0 : Int64)), .second, .val (.long r_1), .second, .val (.ref b2), .val (.double FP.dconst0), .second, .unset, .unset] [(.long (0 : Int64)), (.long (0 : Int64))]) _
    refine own_st (fun t_ k_ => XS.lcmp X8.here hx rfl (hb hby at_111) rfl k_) ?_
    show own_Go p e below T8 (mkF m 112 #[.val (.long p0), .second, .val (.long p1), .second, .val (.long p2), .second, .val (.int p3), .val (.long (0 : Int64)), .second, .val (.int (((p3.toUInt32 >>> ((2 : Int32) &&& 31).toUInt32).toInt32) &&& (3 : Int32))), .val (.long (0 : Int64)), .second, .val (.long r_1), .second, .val (.ref b2), .val (.double FP.dconst0), .second, .unset, .unset] [(.int (lcmpW (0 : Int64) (0 : Int64)))]) _
    refine own_st (fun t_ k_ => XS.ifNo X8.here hx rfl (hb hby at_112) rfl ((if0 _ _).trans (teq ((lw_eq _ _).mpr rfl)).2) k_) ?_
    show own_Go p e below T8 (mkF m 115 #[.val (.long p0), .second, .val (.long p1), .second, .val (.long p2), .second, .val (.int p3), .val (.long (0 : Int64)), .second, .val (.int (((p3.toUInt32 >>> ((2 : Int32) &&& 31).toUInt32).toInt32) &&& (3 : Int32))), .val (.long (0 : Int64)), .second, .val (.long r_1), .second, .val (.ref b2), .val (.double FP.dconst0), .second, .unset, .unset] []) _
    refine own_st (fun t_ k_ => XS.dload X8.here hx rfl (hb hby at_115) rfl k_) ?_
    show own_Go p e below T8 (mkF m 117 #[.val (.long p0), .second, .val (.long p1), .second, .val (.long p2), .second, .val (.int p3), .val (.long (0 : Int64)), .second, .val (.int (((p3.toUInt32 >>> ((2 : Int32) &&& 31).toUInt32).toInt32) &&& (3 : Int32))), .val (.long (0 : Int64)), .second, .val (.long r_1), .second, .val (.ref b2), .val (.double FP.dconst0), .second, .unset, .unset] [(.double FP.dconst0)]) _
    refine own_st (fun t_ k_ => XS.dconst0 X8.here hx rfl (hb hby at_117) rfl k_) ?_
    show own_Go p e below T8 (mkF m 118 #[.val (.long p0), .second, .val (.long p1), .second, .val (.long p2), .second, .val (.int p3), .val (.long (0 : Int64)), .second, .val (.int (((p3.toUInt32 >>> ((2 : Int32) &&& 31).toUInt32).toInt32) &&& (3 : Int32))), .val (.long (0 : Int64)), .second, .val (.long r_1), .second, .val (.ref b2), .val (.double FP.dconst0), .second, .unset, .unset] [(.double FP.dconst0), (.double FP.dconst0)]) _
    refine own_st (fun t_ k_ => XS.dcmpS X8.here hx rfl (hb hby at_118) rfl own_zero_self k_) ?_
    show own_Go p e below T8 (mkF m 119 #[.val (.long p0), .second, .val (.long p1), .second, .val (.long p2), .second, .val (.int p3), .val (.long (0 : Int64)), .second, .val (.int (((p3.toUInt32 >>> ((2 : Int32) &&& 31).toUInt32).toInt32) &&& (3 : Int32))), .val (.long (0 : Int64)), .second, .val (.long r_1), .second, .val (.ref b2), .val (.double FP.dconst0), .second, .unset, .unset] [(.int (0 : Int32))]) _
    refine own_st (fun t_ k_ => XS.ifNo X8.here hx rfl (hb hby at_119) rfl (by decide) k_) ?_
    show own_Go p e below T8 (mkF m 122 #[.val (.long p0), .second, .val (.long p1), .second, .val (.long p2), .second, .val (.int p3), .val (.long (0 : Int64)), .second, .val (.int (((p3.toUInt32 >>> ((2 : Int32) &&& 31).toUInt32).toInt32) &&& (3 : Int32))), .val (.long (0 : Int64)), .second, .val (.long r_1), .second, .val (.ref b2), .val (.double FP.dconst0), .second, .unset, .unset] []) _
    refine own_st (fun t_ k_ => XS.iconst X8.here hx rfl (hb hby at_122) k_) ?_
    show own_Go p e below T8 (mkF m 123 #[.val (.long p0), .second, .val (.long p1), .second, .val (.long p2), .second, .val (.int p3), .val (.long (0 : Int64)), .second, .val (.int (((p3.toUInt32 >>> ((2 : Int32) &&& 31).toUInt32).toInt32) &&& (3 : Int32))), .val (.long (0 : Int64)), .second, .val (.long r_1), .second, .val (.ref b2), .val (.double FP.dconst0), .second, .unset, .unset] [(.int (1 : Int32))]) _
    refine own_st (fun t_ k_ => XS.goto X8.here hx rfl (pc0 := 123) (pc' := 127) rfl (hb hby at_123) (by decide) (by decide) k_) ?_
    show own_Go p e below T8 (mkF m 127 #[.val (.long p0), .second, .val (.long p1), .second, .val (.long p2), .second, .val (.int p3), .val (.long (0 : Int64)), .second, .val (.int (((p3.toUInt32 >>> ((2 : Int32) &&& 31).toUInt32).toInt32) &&& (3 : Int32))), .val (.long (0 : Int64)), .second, .val (.long r_1), .second, .val (.ref b2), .val (.double FP.dconst0), .second, .unset, .unset] [(.int (1 : Int32))]) _
    obtain ⟨fs, hr, hrun, hended, hW, hsame⟩ := X8.leave (v := some (.int (1 : Int32))) (fun h => by rw [Bd.returns] at h; cases h)
    refine own_fin (retN X8 hx (t := .boolean) Bd.returns (by simp) (hb hby at_127) hr) ⟨hrun, hended, _, _, rfl, ?_, ⟨_, rfl⟩, hW, hsame.mono (by decide) (by decide)⟩
    show Q_rmLaw Z p0 p1 p2 p3 h0 n0 _ T8.heap _
    rw [eH8]
    exact ⟨rfl, N8, K6⟩
  · skip
    refine own_st (fun t_ k_ => XS.ifYes X0.here hx rfl (pc0 := 4) (pc' := 11) rfl (hb hby at_4) rfl ((if0 _ _).trans (feq hm).2) (by decide) (by decide) k_) ?_
    show own_Go p e below s₁ (mkF m 11 #[.val (.long p0), .second, .val (.long p1), .second, .val (.long p2), .second, .val (.int p3), .unset, .unset, .unset, .unset, .unset, .unset, .unset, .unset, .unset, .unset, .unset, .unset] []) _
    refine own_st (fun t_ k_ => XS.lloadN X0.here hx rfl (hb hby at_11) rfl k_) ?_
    show own_Go p e below s₁ (mkF m 12 #[.val (.long p0), .second, .val (.long p1), .second, .val (.long p2), .second, .val (.int p3), .unset, .unset, .unset, .unset, .unset, .unset, .unset, .unset, .unset, .unset, .unset, .unset] [(.long p0)]) _
    refine own_st (fun t_ k_ => X0.ldc2Long hx hown (mvT hZ (hw _ (List.mem_of_getElem? (i := 0) rfl))) (g := (mkF m 12 #[.val (.long p0), .second, .val (.long p1), .second, .val (.long p2), .second, .val (.int p3), .unset, .unset, .unset, .unset, .unset, .unset, .unset, .unset, .unset, .unset, .unset, .unset] [(.long p0)])) rfl (hb hby at_12) _ k_) ?_
    show own_Go p e below s₁ (mkF m 15 #[.val (.long p0), .second, .val (.long p1), .second, .val (.long p2), .second, .val (.int p3), .unset, .unset, .unset, .unset, .unset, .unset, .unset, .unset, .unset, .unset, .unset, .unset] [(.long (9223372036854775807 : Int64)), (.long p0)]) _
    refine own_st (fun t_ k_ => XS.land X0.here hx rfl (hb hby at_15) rfl k_) ?_
    show own_Go p e below s₁ (mkF m 16 #[.val (.long p0), .second, .val (.long p1), .second, .val (.long p2), .second, .val (.int p3), .unset, .unset, .unset, .unset, .unset, .unset, .unset, .unset, .unset, .unset, .unset, .unset] [(.long (p0 &&& (9223372036854775807 : Int64)))]) _
    refine own_st (fun t_ k_ => XS.lstore X0.here hx rfl (hb hby at_16) rfl (l' := #[.val (.long p0), .second, .val (.long p1), .second, .val (.long p2), .second, .val (.int p3), .val (.long (p0 &&& (9223372036854775807 : Int64))), .second, .unset, .unset, .unset, .unset, .unset, .unset, .unset, .unset, .unset, .unset]) rfl k_) ?_
    show own_Go p e below s₁ (mkF m 18 #[.val (.long p0), .second, .val (.long p1), .second, .val (.long p2), .second, .val (.int p3), .val (.long (p0 &&& (9223372036854775807 : Int64))), .second, .unset, .unset, .unset, .unset, .unset, .unset, .unset, .unset, .unset, .unset] []) _
    have ht0 := own_maxL p0
    generalize (p0 &&& (9223372036854775807 : Int64)) = l1 at ht0 ⊢
    show own_Go p e below s₁ (mkF m 18 #[.val (.long p0), .second, .val (.long p1), .second, .val (.long p2), .second, .val (.int p3), .val (.long l1), .second, .unset, .unset, .unset, .unset, .unset, .unset, .unset, .unset, .unset, .unset] []) _
    refine own_st (fun t_ k_ => XS.iload X0.here hx rfl (hb hby at_18) rfl k_) ?_
    show own_Go p e below s₁ (mkF m 20 #[.val (.long p0), .second, .val (.long p1), .second, .val (.long p2), .second, .val (.int p3), .val (.long l1), .second, .unset, .unset, .unset, .unset, .unset, .unset, .unset, .unset, .unset, .unset] [(.int p3)]) _
    refine own_st (fun t_ k_ => XS.iconst X0.here hx rfl (hb hby at_20) k_) ?_
    show own_Go p e below s₁ (mkF m 21 #[.val (.long p0), .second, .val (.long p1), .second, .val (.long p2), .second, .val (.int p3), .val (.long l1), .second, .unset, .unset, .unset, .unset, .unset, .unset, .unset, .unset, .unset, .unset] [(.int (2 : Int32)), (.int p3)]) _
    refine own_st (fun t_ k_ => XS.iushr X0.here hx rfl (hb hby at_21) rfl k_) ?_
    show own_Go p e below s₁ (mkF m 22 #[.val (.long p0), .second, .val (.long p1), .second, .val (.long p2), .second, .val (.int p3), .val (.long l1), .second, .unset, .unset, .unset, .unset, .unset, .unset, .unset, .unset, .unset, .unset] [(.int ((p3.toUInt32 >>> ((2 : Int32) &&& 31).toUInt32).toInt32))]) _
    refine own_st (fun t_ k_ => XS.iconst X0.here hx rfl (hb hby at_22) k_) ?_
    show own_Go p e below s₁ (mkF m 23 #[.val (.long p0), .second, .val (.long p1), .second, .val (.long p2), .second, .val (.int p3), .val (.long l1), .second, .unset, .unset, .unset, .unset, .unset, .unset, .unset, .unset, .unset, .unset] [(.int (3 : Int32)), (.int ((p3.toUInt32 >>> ((2 : Int32) &&& 31).toUInt32).toInt32))]) _
    refine own_st (fun t_ k_ => XS.iand X0.here hx rfl (hb hby at_23) rfl k_) ?_
    show own_Go p e below s₁ (mkF m 24 #[.val (.long p0), .second, .val (.long p1), .second, .val (.long p2), .second, .val (.int p3), .val (.long l1), .second, .unset, .unset, .unset, .unset, .unset, .unset, .unset, .unset, .unset, .unset] [(.int (((p3.toUInt32 >>> ((2 : Int32) &&& 31).toUInt32).toInt32) &&& (3 : Int32)))]) _
    refine own_st (fun t_ k_ => XS.istore X0.here hx rfl (hb hby at_24) rfl (l' := #[.val (.long p0), .second, .val (.long p1), .second, .val (.long p2), .second, .val (.int p3), .val (.long l1), .second, .val (.int (((p3.toUInt32 >>> ((2 : Int32) &&& 31).toUInt32).toInt32) &&& (3 : Int32))), .unset, .unset, .unset, .unset, .unset, .unset, .unset, .unset, .unset]) rfl k_) ?_
    show own_Go p e below s₁ (mkF m 26 #[.val (.long p0), .second, .val (.long p1), .second, .val (.long p2), .second, .val (.int p3), .val (.long l1), .second, .val (.int (((p3.toUInt32 >>> ((2 : Int32) &&& 31).toUInt32).toInt32) &&& (3 : Int32))), .unset, .unset, .unset, .unset, .unset, .unset, .unset, .unset, .unset] []) _
    refine own_st (fun t_ k_ => XS.lload X0.here hx rfl (hb hby at_26) rfl k_) ?_
    show own_Go p e below s₁ (mkF m 28 #[.val (.long p0), .second, .val (.long p1), .second, .val (.long p2), .second, .val (.int p3), .val (.long l1), .second, .val (.int (((p3.toUInt32 >>> ((2 : Int32) &&& 31).toUInt32).toInt32) &&& (3 : Int32))), .unset, .unset, .unset, .unset, .unset, .unset, .unset, .unset, .unset] [(.long l1)]) _
    refine own_st (fun t_ k_ => XS.lconst X0.here hx rfl (hb hby at_28) k_) ?_
    show own_Go p e below s₁ (mkF m 29 #[.val (.long p0), .second, .val (.long p1), .second, .val (.long p2), .second, .val (.int p3), .val (.long l1), .second, .val (.int (((p3.toUInt32 >>> ((2 : Int32) &&& 31).toUInt32).toInt32) &&& (3 : Int32))), .unset, .unset, .unset, .unset, .unset, .unset, .unset, .unset, .unset] [(.long (0 : Int64)), (.long l1)]) _
    refine own_st (fun t_ k_ => XS.lcmp X0.here hx rfl (hb hby at_29) rfl k_) ?_
    show own_Go p e below s₁ (mkF m 30 #[.val (.long p0), .second, .val (.long p1), .second, .val (.long p2), .second, .val (.int p3), .val (.long l1), .second, .val (.int (((p3.toUInt32 >>> ((2 : Int32) &&& 31).toUInt32).toInt32) &&& (3 : Int32))), .unset, .unset, .unset, .unset, .unset, .unset, .unset, .unset, .unset] [(.int (lcmpW l1 (0 : Int64)))]) _
    by_cases hz0 : (lcmpW l1 (0 : Int64)) = (0 : Int32)
    · skip
      refine own_st (fun t_ k_ => XS.ifNo X0.here hx rfl (hb hby at_30) rfl ((if0 _ _).trans (teq hz0).2) k_) ?_
      show own_Go p e below s₁ (mkF m 33 #[.val (.long p0), .second, .val (.long p1), .second, .val (.long p2), .second, .val (.int p3), .val (.long l1), .second, .val (.int (((p3.toUInt32 >>> ((2 : Int32) &&& 31).toUInt32).toInt32) &&& (3 : Int32))), .unset, .unset, .unset, .unset, .unset, .unset, .unset, .unset, .unset] []) _
      have hl := (lw_eq _ _).mp hz0
      subst hl
      show own_Go p e below s₁ (mkF m 33 #[.val (.long p0), .second, .val (.long p1), .second, .val (.long p2), .second, .val (.int p3), .val (.long (0 : Int64)), .second, .val (.int (((p3.toUInt32 >>> ((2 : Int32) &&& 31).toUInt32).toInt32) &&& (3 : Int32))), .unset, .unset, .unset, .unset, .unset, .unset, .unset, .unset, .unset] []) _
      refine own_st (fun t_ k_ => XS.lconst X0.here hx rfl (hb hby at_33) k_) ?_
      show own_Go p e below s₁ (mkF m 34 #[.val (.long p0), .second, .val (.long p1), .second, .val (.long p2), .second, .val (.int p3), .val (.long (0 : Int64)), .second, .val (.int (((p3.toUInt32 >>> ((2 : Int32) &&& 31).toUInt32).toInt32) &&& (3 : Int32))), .unset, .unset, .unset, .unset, .unset, .unset, .unset, .unset, .unset] [(.long (0 : Int64))]) _
      refine own_st (fun t_ k_ => XS.lstore X0.here hx rfl (hb hby at_34) rfl (l' := #[.val (.long p0), .second, .val (.long p1), .second, .val (.long p2), .second, .val (.int p3), .val (.long (0 : Int64)), .second, .val (.int (((p3.toUInt32 >>> ((2 : Int32) &&& 31).toUInt32).toInt32) &&& (3 : Int32))), .val (.long (0 : Int64)), .second, .unset, .unset, .unset, .unset, .unset, .unset, .unset]) rfl k_) ?_
      show own_Go p e below s₁ (mkF m 36 #[.val (.long p0), .second, .val (.long p1), .second, .val (.long p2), .second, .val (.int p3), .val (.long (0 : Int64)), .second, .val (.int (((p3.toUInt32 >>> ((2 : Int32) &&& 31).toUInt32).toInt32) &&& (3 : Int32))), .val (.long (0 : Int64)), .second, .unset, .unset, .unset, .unset, .unset, .unset, .unset] []) _
      refine own_st (fun t_ k_ => XS.goto X0.here hx rfl (pc0 := 36) (pc' := 74) rfl (hb hby at_36) (by decide) (by decide) k_) ?_
      show own_Go p e below s₁ (mkF m 74 #[.val (.long p0), .second, .val (.long p1), .second, .val (.long p2), .second, .val (.int p3), .val (.long (0 : Int64)), .second, .val (.int (((p3.toUInt32 >>> ((2 : Int32) &&& 31).toUInt32).toInt32) &&& (3 : Int32))), .val (.long (0 : Int64)), .second, .unset, .unset, .unset, .unset, .unset, .unset, .unset] []) _
      have hc0 : 0 ≤ (0 : Int64).toInt := by decide
      refine own_st (fun t_ k_ => XS.lload X0.here hx rfl (hb hby at_74) rfl k_) ?_
      show own_Go p e below s₁ (mkF m 76 #[.val (.long p0), .second, .val (.long p1), .second, .val (.long p2), .second, .val (.int p3), .val (.long (0 : Int64)), .second, .val (.int (((p3.toUInt32 >>> ((2 : Int32) &&& 31).toUInt32).toInt32) &&& (3 : Int32))), .val (.long (0 : Int64)), .second, .unset, .unset, .unset, .unset, .unset, .unset, .unset] [(.long (0 : Int64))]) _
      refine own_st (fun t_ k_ => XS.lloadN X0.here hx rfl (hb hby at_76) rfl k_) ?_
      show own_Go p e below s₁ (mkF m 77 #[.val (.long p0), .second, .val (.long p1), .second, .val (.long p2), .second, .val (.int p3), .val (.long (0 : Int64)), .second, .val (.int (((p3.toUInt32 >>> ((2 : Int32) &&& 31).toUInt32).toInt32) &&& (3 : Int32))), .val (.long (0 : Int64)), .second, .unset, .unset, .unset, .unset, .unset, .unset, .unset] [(.long p1), (.long (0 : Int64))]) _
      refine own_st (fun t_ k_ => X0.ldc2Long hx hown (mvT hZ (hw _ (List.mem_of_getElem? (i := 0) rfl))) (g := (mkF m 77 #[.val (.long p0), .second, .val (.long p1), .second, .val (.long p2), .second, .val (.int p3), .val (.long (0 : Int64)), .second, .val (.int (((p3.toUInt32 >>> ((2 : Int32) &&& 31).toUInt32).toInt32) &&& (3 : Int32))), .val (.long (0 : Int64)), .second, .unset, .unset, .unset, .unset, .unset, .unset, .unset] [(.long p1), (.long (0 : Int64))])) rfl (hb hby at_77) _ k_) ?_
      show own_Go p e below s₁ (mkF m 80 #[.val (.long p0), .second, .val (.long p1), .second, .val (.long p2), .second, .val (.int p3), .val (.long (0 : Int64)), .second, .val (.int (((p3.toUInt32 >>> ((2 : Int32) &&& 31).toUInt32).toInt32) &&& (3 : Int32))), .val (.long (0 : Int64)), .second, .unset, .unset, .unset, .unset, .unset, .unset, .unset] [(.long (9223372036854775807 : Int64)), (.long p1), (.long (0 : Int64))]) _
      refine own_st (fun t_ k_ => XS.land X0.here hx rfl (hb hby at_80) rfl k_) ?_
      show own_Go p e below s₁ (mkF m 81 #[.val (.long p0), .second, .val (.long p1), .second, .val (.long p2), .second, .val (.int p3), .val (.long (0 : Int64)), .second, .val (.int (((p3.toUInt32 >>> ((2 : Int32) &&& 31).toUInt32).toInt32) &&& (3 : Int32))), .val (.long (0 : Int64)), .second, .unset, .unset, .unset, .unset, .unset, .unset, .unset] [(.long (p1 &&& (9223372036854775807 : Int64))), (.long (0 : Int64))]) _
      obtain ⟨_, _, ⟨T9, L9, k9, n9⟩, -, X9, ⟨Lc9, hQ9, l9, y9, z9⟩, st9⟩ := Jvm.LawKit.callS X0 hx (y := (⟨"java/lang/Math", "max", "(JJ)J"⟩ : MethodName)) hown (mvT hZ (hw _ (List.mem_of_getElem? (i := 1) rfl))) (mvT hZ (hw _ (List.mem_of_getElem? (i := 2) rfl))) (mvT hZ (hw _ (List.mem_of_getElem? (i := 3) rfl))) (mvT hZ (hw _ (List.mem_of_getElem? (i := 4) rfl))) (by decide) (backOf (W := 0) (rmMax l Z a0 hw [] ((0 : Int64)) ((p1 &&& (9223372036854775807 : Int64))) h0 n0 Z0 ) hZ (hw _ (List.mem_of_getElem? (i := 4) rfl)) (hw _ (List.mem_of_getElem? (i := 3) rfl)) (by decide) (by decide)) (g := (mkF m 81 #[.val (.long p0), .second, .val (.long p1), .second, .val (.long p2), .second, .val (.int p3), .val (.long (0 : Int64)), .second, .val (.int (((p3.toUInt32 >>> ((2 : Int32) &&& 31).toUInt32).toInt32) &&& (3 : Int32))), .val (.long (0 : Int64)), .second, .unset, .unset, .unset, .unset, .unset, .unset, .unset] [(.long (p1 &&& (9223372036854775807 : Int64))), (.long (0 : Int64))])) rfl (by rw [hml]; rfl) (argsL := [(.long (0 : Int64)), (.long (p1 &&& (9223372036854775807 : Int64)))]) (rest := []) (lenOf pd__JJ_J rfl) rfl (by show 2 * 0 + _ ≤ _; exact Nat.le_of_eq rfl) (hb hby at_81) (fun _ _ => ⟨rfl, e0, (by decide : 0 + 0 ≤ _), (by decide : 0 + 0 ≤ _)⟩)
      dsimp only [Pt.U, Pt.locs, Pt.cells, Pt.slots] at X9 l9 y9 z9 st9 hQ9
      subst l9 y9 z9
      obtain ⟨r_9, rfl, Nq9, eH9, q9_0⟩ := hQ9
      have N9 := Fr.app N0 Nq9
      refine own_st st9 ?_
      show own_Go p e below T9 (mkF m 84 #[.val (.long p0), .second, .val (.long p1), .second, .val (.long p2), .second, .val (.int p3), .val (.long (0 : Int64)), .second, .val (.int (((p3.toUInt32 >>> ((2 : Int32) &&& 31).toUInt32).toInt32) &&& (3 : Int32))), .val (.long (0 : Int64)), .second, .unset, .unset, .unset, .unset, .unset, .unset, .unset] [(.long r_9)]) _
      refine own_st (fun t_ k_ => XS.lstore X9.here hx rfl (hb hby at_84) rfl (l' := #[.val (.long p0), .second, .val (.long p1), .second, .val (.long p2), .second, .val (.int p3), .val (.long (0 : Int64)), .second, .val (.int (((p3.toUInt32 >>> ((2 : Int32) &&& 31).toUInt32).toInt32) &&& (3 : Int32))), .val (.long (0 : Int64)), .second, .val (.long r_9), .second, .unset, .unset, .unset, .unset, .unset]) rfl k_) ?_
      show own_Go p e below T9 (mkF m 86 #[.val (.long p0), .second, .val (.long p1), .second, .val (.long p2), .second, .val (.int p3), .val (.long (0 : Int64)), .second, .val (.int (((p3.toUInt32 >>> ((2 : Int32) &&& 31).toUInt32).toInt32) &&& (3 : Int32))), .val (.long (0 : Int64)), .second, .val (.long r_9), .second, .unset, .unset, .unset, .unset, .unset] []) _
      obtain ⟨T10, h10, X10, e10, E10, A10, D10, -, st10⟩ := newO X9 hx hZ hown (hw _ (List.mem_of_getElem? (i := 5) rfl)) (hw _ (List.mem_of_getElem? (i := 6) rfl)) (hw _ (List.mem_of_getElem? (i := 7) rfl)) eH9 (g := (mkF m 86 #[.val (.long p0), .second, .val (.long p1), .second, .val (.long p2), .second, .val (.int p3), .val (.long (0 : Int64)), .second, .val (.int (((p3.toUInt32 >>> ((2 : Int32) &&& 31).toUInt32).toInt32) &&& (3 : Int32))), .val (.long (0 : Int64)), .second, .val (.long r_9), .second, .unset, .unset, .unset, .unset, .unset] [])) rfl (hb hby at_86) (by decide) (by decide)
      obtain ⟨b10, g10⟩ : ∃ z, z = h0.size := ⟨_, rfl⟩
      rw [← g10] at A10 D10 st10
      have G10 : n0 ≤ b10 := Nat.le_trans Z0 (Nat.le_of_eq g10.symm)
      have B10 : h0.size ≤ b10 := Nat.le_trans (Keep.refl h0 []).1 (Nat.le_of_eq g10.symm)
      have K11 : Keep h0 h10 [] := (Keep.refl h0 []).ext E10
      have D10_truePairs : Fld Z h10 b10 "com/example/goldweave/goldweave/engine/evaluation/PairwiseAccuracy" "truePairs" "J" (.long (0 : Int64)) := D10 (Or.inr (hw _ (List.mem_of_getElem? (i := 20) rfl))) (ty := .long) (by decide)
      have D10_linkedPairs : Fld Z h10 b10 "com/example/goldweave/goldweave/engine/evaluation/PairwiseAccuracy" "linkedPairs" "J" (.long (0 : Int64)) := D10 (Or.inr (hw _ (List.mem_of_getElem? (i := 22) rfl))) (ty := .long) (by decide)
      have D10_correctPairs : Fld Z h10 b10 "com/example/goldweave/goldweave/engine/evaluation/PairwiseAccuracy" "correctPairs" "J" (.long (0 : Int64)) := D10 (Or.inr (hw _ (List.mem_of_getElem? (i := 24) rfl))) (ty := .long) (by decide)
      refine own_st st10 ?_
      show own_Go p e below T10 (mkF m 89 #[.val (.long p0), .second, .val (.long p1), .second, .val (.long p2), .second, .val (.int p3), .val (.long (0 : Int64)), .second, .val (.int (((p3.toUInt32 >>> ((2 : Int32) &&& 31).toUInt32).toInt32) &&& (3 : Int32))), .val (.long (0 : Int64)), .second, .val (.long r_9), .second, .unset, .unset, .unset, .unset, .unset] [(.ref b10)]) _
      refine own_st (fun t_ k_ => XS.dup X10.here hx rfl (hb hby at_89) rfl rfl k_) ?_
      show own_Go p e below T10 (mkF m 90 #[.val (.long p0), .second, .val (.long p1), .second, .val (.long p2), .second, .val (.int p3), .val (.long (0 : Int64)), .second, .val (.int (((p3.toUInt32 >>> ((2 : Int32) &&& 31).toUInt32).toInt32) &&& (3 : Int32))), .val (.long (0 : Int64)), .second, .val (.long r_9), .second, .unset, .unset, .unset, .unset, .unset] [(.ref b10), (.ref b10)]) _
      refine own_st (fun t_ k_ => XS.lload X10.here hx rfl (hb hby at_90) rfl k_) ?_
      show own_Go p e below T10 (mkF m 92 #[.val (.long p0), .second, .val (.long p1), .second, .val (.long p2), .second, .val (.int p3), .val (.long (0 : Int64)), .second, .val (.int (((p3.toUInt32 >>> ((2 : Int32) &&& 31).toUInt32).toInt32) &&& (3 : Int32))), .val (.long (0 : Int64)), .second, .val (.long r_9), .second, .unset, .unset, .unset, .unset, .unset] [(.long r_9), (.ref b10), (.ref b10)]) _
      refine own_st (fun t_ k_ => XS.lload X10.here hx rfl (hb hby at_92) rfl k_) ?_
      show own_Go p e below T10 (mkF m 94 #[.val (.long p0), .second, .val (.long p1), .second, .val (.long p2), .second, .val (.int p3), .val (.long (0 : Int64)), .second, .val (.int (((p3.toUInt32 >>> ((2 : Int32) &&& 31).toUInt32).toInt32) &&& (3 : Int32))), .val (.long (0 : Int64)), .second, .val (.long r_9), .second, .unset, .unset, .unset, .unset, .unset] [(.long (0 : Int64)), (.long r_9), (.ref b10), (.ref b10)]) _
      refine own_st (fun t_ k_ => XS.lload X10.here hx rfl (hb hby at_94) rfl k_) ?_
      show own_Go p e below T10 (mkF m 96 #[.val (.long p0), .second, .val (.long p1), .second, .val (.long p2), .second, .val (.int p3), .val (.long (0 : Int64)), .second, .val (.int (((p3.toUInt32 >>> ((2 : Int32) &&& 31).toUInt32).toInt32) &&& (3 : Int32))), .val (.long (0 : Int64)), .second, .val (.long r_9), .second, .unset, .unset, .unset, .unset, .unset] [(.long (0 : Int64)), (.long (0 : Int64)), (.long r_9), (.ref b10), (.ref b10)]) _
      have f12 := (Nat.le_trans Z0 E10.1)
      obtain ⟨_, _, ⟨T13, L13, k13, n13⟩, -, X13, ⟨Lc13, hQ13, l13, y13, z13⟩, st13⟩ := X10.specialBack hx (y := (⟨"com/example/goldweave/goldweave/engine/evaluation/PairwiseAccuracy", "<init>", "(JJJ)V"⟩ : MethodName)) rfl hown (mvT hZ (hw _ (List.mem_of_getElem? (i := 8) rfl))) (mvT hZ (hw _ (List.mem_of_getElem? (i := 9) rfl))) (mvT hZ (hw _ (List.mem_of_getElem? (i := 10) rfl))) (by decide) (backOf (W := 1) (rmPA l Z a0 hw [] b10 r_9 ((0 : Int64)) ((0 : Int64)) ((.long (0 : Int64))) ((.long (0 : Int64))) ((.long (0 : Int64))) h10 n0 f12 A10 D10_truePairs D10_linkedPairs D10_correctPairs G10 hc0 q9_0.1 (Int.le_refl _)) hZ (hw _ (List.mem_of_getElem? (i := 10) rfl)) (hw _ (List.mem_of_getElem? (i := 7) rfl)) (by decide) (by decide)) (g := (mkF m 96 #[.val (.long p0), .second, .val (.long p1), .second, .val (.long p2), .second, .val (.int p3), .val (.long (0 : Int64)), .second, .val (.int (((p3.toUInt32 >>> ((2 : Int32) &&& 31).toUInt32).toInt32) &&& (3 : Int32))), .val (.long (0 : Int64)), .second, .val (.long r_9), .second, .unset, .unset, .unset, .unset, .unset] [(.long (0 : Int64)), (.long (0 : Int64)), (.long r_9), (.ref b10), (.ref b10)])) rfl (by rw [hml]; rfl) (Steps.refl _) (a := b10) (argsL := [(.long r_9), (.long (0 : Int64)), (.long (0 : Int64))]) (rest := [(.ref b10)]) (lenOf pd__JJJ_V rfl) rfl (by show 2 * 0 + _ ≤ _; exact Nat.le_of_eq rfl) (hb hby at_96) (fun _ _ => ⟨rfl, e10, (by decide : 1 + 0 ≤ _), (by decide : 3 + 0 ≤ _)⟩)
      dsimp only [Pt.U, Pt.locs, Pt.cells, Pt.slots] at X13 l13 y13 z13 st13 hQ13
      subst l13 y13 z13
      obtain ⟨rfl, Nq13, Kq13, q13_0, q13_1, q13_2, q13_3⟩ := hQ13
      have N13 := Fr.app N9 Nq13
      have K14 : Keep h0 T13.heap [] := K11.trans Kq13 (allS (Or.inr B10) all0)
      refine own_tr st13 ?_
      show own_Go p e below T13 (mkF m 99 #[.val (.long p0), .second, .val (.long p1), .second, .val (.long p2), .second, .val (.int p3), .val (.long (0 : Int64)), .second, .val (.int (((p3.toUInt32 >>> ((2 : Int32) &&& 31).toUInt32).toInt32) &&& (3 : Int32))), .val (.long (0 : Int64)), .second, .val (.long r_9), .second, .unset, .unset, .unset, .unset, .unset] [(.ref b10)]) _
      refine own_st (fun t_ k_ => XS.astore X13.here hx rfl (hb hby at_99) rfl rfl (l' := #[.val (.long p0), .second, .val (.long p1), .second, .val (.long p2), .second, .val (.int p3), .val (.long (0 : Int64)), .second, .val (.int (((p3.toUInt32 >>> ((2 : Int32) &&& 31).toUInt32).toInt32) &&& (3 : Int32))), .val (.long (0 : Int64)), .second, .val (.long r_9), .second, .val (.ref b10), .unset, .unset, .unset, .unset]) rfl k_) ?_
      show own_Go p e below T13 (mkF m 101 #[.val (.long p0), .second, .val (.long p1), .second, .val (.long p2), .second, .val (.int p3), .val (.long (0 : Int64)), .second, .val (.int (((p3.toUInt32 >>> ((2 : Int32) &&& 31).toUInt32).toInt32) &&& (3 : Int32))), .val (.long (0 : Int64)), .second, .val (.long r_9), .second, .val (.ref b10), .unset, .unset, .unset, .unset] []) _
      refine own_st (fun t_ k_ => XS.aload X13.here hx rfl (hb hby at_101) rfl rfl k_) ?_
      show own_Go p e below T13 (mkF m 103 #[.val (.long p0), .second, .val (.long p1), .second, .val (.long p2), .second, .val (.int p3), .val (.long (0 : Int64)), .second, .val (.int (((p3.toUInt32 >>> ((2 : Int32) &&& 31).toUInt32).toInt32) &&& (3 : Int32))), .val (.long (0 : Int64)), .second, .val (.long r_9), .second, .val (.ref b10), .unset, .unset, .unset, .unset] [(.ref b10)]) _
      have f15 := (Nat.le_trans f12 Kq13.1)
      obtain ⟨cq16, kq16, qa16, qb16, qc16⟩ := isOf hZ rfl q13_0
      obtain ⟨_, _, ⟨T16, L16, k16, n16⟩, -, X16, ⟨Lc16, hQ16, l16, y16, z16⟩, st16⟩ := X13.virtualBack hx (y := (⟨"com/example/goldweave/goldweave/engine/evaluation/PairwiseAccuracy", "precision", "()D"⟩ : MethodName)) (z := (⟨"com/example/goldweave/goldweave/engine/evaluation/PairwiseAccuracy", "precision", "()D"⟩ : MethodName)) hown (mvT hZ (hw _ (List.mem_of_getElem? (i := 25) rfl))) (mvT hZ (hw _ (List.mem_of_getElem? (i := 26) rfl))) (notFace_of_selects (args := #[]) (mvT hZ (hw _ (List.mem_of_getElem? (i := 28) rfl)))) (mvT hZ (hw _ (List.mem_of_getElem? (i := 28) rfl))) (mvT hZ (hw _ (List.mem_of_getElem? (i := 27) rfl))) (by decide) (backOf (W := 0) (rmRe0 l Z a0 hw [] b10 ((0 : Int64)) T13.heap n0 f15 q13_3 q13_2) hZ (hw _ (List.mem_of_getElem? (i := 29) rfl)) (hw _ (List.mem_of_getElem? (i := 7) rfl)) (by decide) (by decide)) qa16 qc16 (g := (mkF m 103 #[.val (.long p0), .second, .val (.long p1), .second, .val (.long p2), .second, .val (.int p3), .val (.long (0 : Int64)), .second, .val (.int (((p3.toUInt32 >>> ((2 : Int32) &&& 31).toUInt32).toInt32) &&& (3 : Int32))), .val (.long (0 : Int64)), .second, .val (.long r_9), .second, .val (.ref b10), .unset, .unset, .unset, .unset] [(.ref b10)])) rfl (by rw [hml]; rfl) (Steps.refl _) (argsL := []) (rest := []) (lenOf pd___D rfl) rfl (by show 2 * 0 + _ ≤ _; exact Nat.le_of_eq rfl) (hb hby at_103) (fun _ _ => ⟨rfl, rfl, (by decide : 1 + 0 ≤ _), (by decide : 3 + 0 ≤ _)⟩)
      dsimp only [Pt.U, Pt.locs, Pt.cells, Pt.slots] at X16 l16 y16 z16 st16 hQ16
      subst l16 y16 z16
      obtain ⟨rfl, Nq16, eH16⟩ := hQ16
      have N16 := Fr.app N13 Nq16
      refine own_tr st16 ?_
      show own_Go p e below T16 (mkF m 106 #[.val (.long p0), .second, .val (.long p1), .second, .val (.long p2), .second, .val (.int p3), .val (.long (0 : Int64)), .second, .val (.int (((p3.toUInt32 >>> ((2 : Int32) &&& 31).toUInt32).toInt32) &&& (3 : Int32))), .val (.long (0 : Int64)), .second, .val (.long r_9), .second, .val (.ref b10), .unset, .unset, .unset, .unset] [(.double FP.dconst0)]) _
      refine own_st (fun t_ k_ => XS.dstore X16.here hx rfl (hb hby at_106) rfl (l' := #[.val (.long p0), .second, .val (.long p1), .second, .val (.long p2), .second, .val (.int p3), .val (.long (0 : Int64)), .second, .val (.int (((p3.toUInt32 >>> ((2 : Int32) &&& 31).toUInt32).toInt32) &&& (3 : Int32))), .val (.long (0 : Int64)), .second, .val (.long r_9), .second, .val (.ref b10), .val (.double FP.dconst0), .second, .unset, .unset]) rfl k_) ?_
      show own_Go p e below T16 (mkF m 108 #[.val (.long p0), .second, .val (.long p1), .second, .val (.long p2), .second, .val (.int p3), .val (.long (0 : Int64)), .second, .val (.int (((p3.toUInt32 >>> ((2 : Int32) &&& 31).toUInt32).toInt32) &&& (3 : Int32))), .val (.long (0 : Int64)), .second, .val (.long r_9), .second, .val (.ref b10), .val (.double FP.dconst0), .second, .unset, .unset] []) _
      refine own_st (fun t_ k_ => XS.lload X16.here hx rfl (hb hby at_108) rfl k_) ?_
      show own_Go p e below T16 (mkF m 110 #[.val (.long p0), .second, .val (.long p1), .second, .val (.long p2), .second, .val (.int p3), .val (.long (0 : Int64)), .second, .val (.int (((p3.toUInt32 >>> ((2 : Int32) &&& 31).toUInt32).toInt32) &&& (3 : Int32))), .val (.long (0 : Int64)), .second, .val (.long r_9), .second, .val (.ref b10), .val (.double FP.dconst0), .second, .unset, .unset] [(.long (0 : Int64))]) _
      refine own_st (fun t_ k_ => XS.lconst X16.here hx rfl (hb hby at_110) k_) ?_
      show own_Go p e below T16 (mkF m 111 #[.val (.long p0), .second, .val (.long p1), .second, .val (.long p2), .second, .val (.int p3), .val (.long (0 : Int64)), .second, .val (.int (((p3.toUInt32 >>> ((2 : Int32) &&& 31).toUInt32).toInt32) &&& (3 : Int32))), .val (.long (0 : Int64)), .second, .val (.long r_9), .second, .val (.ref b10), .val (.double FP.dconst0), .second, .unset, .unset] [(.long (0 : Int64)), (.long (0 : Int64))]) _
      refine own_st (fun t_ k_ => XS.lcmp X16.here hx rfl (hb hby at_111) rfl k_) ?_
      show own_Go p e below T16 (mkF m 112 #[.val (.long p0), .second, .val (.long p1), .second, .val (.long p2), .second, .val (.int p3), .val (.long (0 : Int64)), .second, .val (.int (((p3.toUInt32 >>> ((2 : Int32) &&& 31).toUInt32).toInt32) &&& (3 : Int32))), .val (.long (0 : Int64)), .second, .val (.long r_9), .second, .val (.ref b10), .val (.double FP.dconst0), .second, .unset, .unset] [(.int (lcmpW (0 : Int64) (0 : Int64)))]) _
      refine own_st (fun t_ k_ => XS.ifNo X16.here hx rfl (hb hby at_112) rfl ((if0 _ _).trans (teq ((lw_eq _ _).mpr rfl)).2) k_) ?_
      show own_Go p e below T16 (mkF m 115 #[.val (.long p0), .second, .val (.long p1), .second, .val (.long p2), .second, .val (.int p3), .val (.long (0 : Int64)), .second, .val (.int (((p3.toUInt32 >>> ((2 : Int32) &&& 31).toUInt32).toInt32) &&& (3 : Int32))), .val (.long (0 : Int64)), .second, .val (.long r_9), .second, .val (.ref b10), .val (.double FP.dconst0), .second, .unset, .unset] []) _
      refine own_st (fun t_ k_ => XS.dload X16.here hx rfl (hb hby at_115) rfl k_) ?_
      show own_Go p e below T16 (mkF m 117 #[.val (.long p0), .second, .val (.long p1), .second, .val (.long p2), .second, .val (.int p3), .val (.long (0 : Int64)), .second, .val (.int (((p3.toUInt32 >>> ((2 : Int32) &&& 31).toUInt32).toInt32) &&& (3 : Int32))), .val (.long (0 : Int64)), .second, .val (.long r_9), .second, .val (.ref b10), .val (.double FP.dconst0), .second, .unset, .unset] [(.double FP.dconst0)]) _
      refine own_st (fun t_ k_ => XS.dconst0 X16.here hx rfl (hb hby at_117) rfl k_) ?_
      show own_Go p e below T16 (mkF m 118 #[.val (.long p0), .second, .val (.long p1), .second, .val (.long p2), .second, .val (.int p3), .val (.long (0 : Int64)), .second, .val (.int (((p3.toUInt32 >>> ((2 : Int32) &&& 31).toUInt32).toInt32) &&& (3 : Int32))), .val (.long (0 : Int64)), .second, .val (.long r_9), .second, .val (.ref b10), .val (.double FP.dconst0), .second, .unset, .unset] [(.double FP.dconst0), (.double FP.dconst0)]) _
      refine own_st (fun t_ k_ => XS.dcmpS X16.here hx rfl (hb hby at_118) rfl own_zero_self k_) ?_
      show own_Go p e below T16 (mkF m 119 #[.val (.long p0), .second, .val (.long p1), .second, .val (.long p2), .second, .val (.int p3), .val (.long (0 : Int64)), .second, .val (.int (((p3.toUInt32 >>> ((2 : Int32) &&& 31).toUInt32).toInt32) &&& (3 : Int32))), .val (.long (0 : Int64)), .second, .val (.long r_9), .second, .val (.ref b10), .val (.double FP.dconst0), .second, .unset, .unset] [(.int (0 : Int32))]) _
      refine own_st (fun t_ k_ => XS.ifNo X16.here hx rfl (hb hby at_119) rfl (by decide) k_) ?_
      show own_Go p e below T16 (mkF m 122 #[.val (.long p0), .second, .val (.long p1), .second, .val (.long p2), .second, .val (.int p3), .val (.long (0 : Int64)), .second, .val (.int (((p3.toUInt32 >>> ((2 : Int32) &&& 31).toUInt32).toInt32) &&& (3 : Int32))), .val (.long (0 : Int64)), .second, .val (.long r_9), .second, .val (.ref b10), .val (.double FP.dconst0), .second, .unset, .unset] []) _
      refine own_st (fun t_ k_ => XS.iconst X16.here hx rfl (hb hby at_122) k_) ?_
      show own_Go p e below T16 (mkF m 123 #[.val (.long p0), .second, .val (.long p1), .second, .val (.long p2), .second, .val (.int p3), .val (.long (0 : Int64)), .second, .val (.int (((p3.toUInt32 >>> ((2 : Int32) &&& 31).toUInt32).toInt32) &&& (3 : Int32))), .val (.long (0 : Int64)), .second, .val (.long r_9), .second, .val (.ref b10), .val (.double FP.dconst0), .second, .unset, .unset] [(.int (1 : Int32))]) _
      refine own_st (fun t_ k_ => XS.goto X16.here hx rfl (pc0 := 123) (pc' := 127) rfl (hb hby at_123) (by decide) (by decide) k_) ?_
      show own_Go p e below T16 (mkF m 127 #[.val (.long p0), .second, .val (.long p1), .second, .val (.long p2), .second, .val (.int p3), .val (.long (0 : Int64)), .second, .val (.int (((p3.toUInt32 >>> ((2 : Int32) &&& 31).toUInt32).toInt32) &&& (3 : Int32))), .val (.long (0 : Int64)), .second, .val (.long r_9), .second, .val (.ref b10), .val (.double FP.dconst0), .second, .unset, .unset] [(.int (1 : Int32))]) _
      obtain ⟨fs, hr, hrun, hended, hW, hsame⟩ := X16.leave (v := some (.int (1 : Int32))) (fun h => by rw [Bd.returns] at h; cases h)
      refine own_fin (retN X16 hx (t := .boolean) Bd.returns (by simp) (hb hby at_127) hr) ⟨hrun, hended, _, _, rfl, ?_, ⟨_, rfl⟩, hW, hsame.mono (by decide) (by decide)⟩
      show Q_rmLaw Z p0 p1 p2 p3 h0 n0 _ T16.heap _
      rw [eH16]
      exact ⟨rfl, N16, K14⟩
    · skip
      refine own_st (fun t_ k_ => XS.ifYes X0.here hx rfl (pc0 := 30) (pc' := 39) rfl (hb hby at_30) rfl ((if0 _ _).trans (feq hz0).2) (by decide) (by decide) k_) ?_
      show own_Go p e below s₁ (mkF m 39 #[.val (.long p0), .second, .val (.long p1), .second, .val (.long p2), .second, .val (.int p3), .val (.long l1), .second, .val (.int (((p3.toUInt32 >>> ((2 : Int32) &&& 31).toUInt32).toInt32) &&& (3 : Int32))), .unset, .unset, .unset, .unset, .unset, .unset, .unset, .unset, .unset] []) _
      have htp := own_pos0 ht0 hz0
      have htn := hz0
      refine own_st (fun t_ k_ => XS.iload X0.here hx rfl (hb hby at_39) rfl k_) ?_
      show own_Go p e below s₁ (mkF m 41 #[.val (.long p0), .second, .val (.long p1), .second, .val (.long p2), .second, .val (.int p3), .val (.long l1), .second, .val (.int (((p3.toUInt32 >>> ((2 : Int32) &&& 31).toUInt32).toInt32) &&& (3 : Int32))), .unset, .unset, .unset, .unset, .unset, .unset, .unset, .unset, .unset] [(.int (((p3.toUInt32 >>> ((2 : Int32) &&& 31).toUInt32).toInt32) &&& (3 : Int32)))]) _
      by_cases hk0 : (((p3.toUInt32 >>> ((2 : Int32) &&& 31).toUInt32).toInt32) &&& (3 : Int32)) = (0 : Int32)
      · skip
        refine own_st (fun t_ k_ => XS.ifNo X0.here hx rfl (hb hby at_41) rfl ((if0 _ _).trans (teq hk0).2) k_) ?_
        show own_Go p e below s₁ (mkF m 44 #[.val (.long p0), .second, .val (.long p1), .second, .val (.long p2), .second, .val (.int p3), .val (.long l1), .second, .val (.int (((p3.toUInt32 >>> ((2 : Int32) &&& 31).toUInt32).toInt32) &&& (3 : Int32))), .unset, .unset, .unset, .unset, .unset, .unset, .unset, .unset, .unset] []) _
        refine own_st (fun t_ k_ => XS.lconst X0.here hx rfl (hb hby at_44) k_) ?_
        show own_Go p e below s₁ (mkF m 45 #[.val (.long p0), .second, .val (.long p1), .second, .val (.long p2), .second, .val (.int p3), .val (.long l1), .second, .val (.int (((p3.toUInt32 >>> ((2 : Int32) &&& 31).toUInt32).toInt32) &&& (3 : Int32))), .unset, .unset, .unset, .unset, .unset, .unset, .unset, .unset, .unset] [(.long (0 : Int64))]) _
        refine own_st (fun t_ k_ => XS.lstore X0.here hx rfl (hb hby at_45) rfl (l' := #[.val (.long p0), .second, .val (.long p1), .second, .val (.long p2), .second, .val (.int p3), .val (.long l1), .second, .val (.int (((p3.toUInt32 >>> ((2 : Int32) &&& 31).toUInt32).toInt32) &&& (3 : Int32))), .val (.long (0 : Int64)), .second, .unset, .unset, .unset, .unset, .unset, .unset, .unset]) rfl k_) ?_
        show own_Go p e below s₁ (mkF m 47 #[.val (.long p0), .second, .val (.long p1), .second, .val (.long p2), .second, .val (.int p3), .val (.long l1), .second, .val (.int (((p3.toUInt32 >>> ((2 : Int32) &&& 31).toUInt32).toInt32) &&& (3 : Int32))), .val (.long (0 : Int64)), .second, .unset, .unset, .unset, .unset, .unset, .unset, .unset] []) _
        refine own_st (fun t_ k_ => XS.goto X0.here hx rfl (pc0 := 47) (pc' := 74) rfl (hb hby at_47) (by decide) (by decide) k_) ?_
        show own_Go p e below s₁ (mkF m 74 #[.val (.long p0), .second, .val (.long p1), .second, .val (.long p2), .second, .val (.int p3), .val (.long l1), .second, .val (.int (((p3.toUInt32 >>> ((2 : Int32) &&& 31).toUInt32).toInt32) &&& (3 : Int32))), .val (.long (0 : Int64)), .second, .unset, .unset, .unset, .unset, .unset, .unset, .unset] []) _
        have hc0 : 0 ≤ (0 : Int64).toInt := by decide
        have hct : (0 : Int64).toInt ≤ l1.toInt := ht0
        refine own_st (fun t_ k_ => XS.lload X0.here hx rfl (hb hby at_74) rfl k_) ?_
        show own_Go p e below s₁ (mkF m 76 #[.val (.long p0), .second, .val (.long p1), .second, .val (.long p2), .second, .val (.int p3), .val (.long l1), .second, .val (.int (((p3.toUInt32 >>> ((2 : Int32) &&& 31).toUInt32).toInt32) &&& (3 : Int32))), .val (.long (0 : Int64)), .second, .unset, .unset, .unset, .unset, .unset, .unset, .unset] [(.long (0 : Int64))]) _
        refine own_st (fun t_ k_ => XS.lloadN X0.here hx rfl (hb hby at_76) rfl k_) ?_
        show own_Go p e below s₁ (mkF m 77 #[.val (.long p0), .second, .val (.long p1), .second, .val (.long p2), .second, .val (.int p3), .val (.long l1), .second, .val (.int (((p3.toUInt32 >>> ((2 : Int32) &&& 31).toUInt32).toInt32) &&& (3 : Int32))), .val (.long (0 : Int64)), .second, .unset, .unset, .unset, .unset, .unset, .unset, .unset] [(.long p1), (.long (0 : Int64))]) _
        refine own_st (fun t_ k_ => X0.ldc2Long hx hown (mvT hZ (hw _ (List.mem_of_getElem? (i := 0) rfl))) (g := (mkF m 77 #[.val (.long p0), .second, .val (.long p1), .second, .val (.long p2), .second, .val (.int p3), .val (.long l1), .second, .val (.int (((p3.toUInt32 >>> ((2 : Int32) &&& 31).toUInt32).toInt32) &&& (3 : Int32))), .val (.long (0 : Int64)), .second, .unset, .unset, .unset, .unset, .unset, .unset, .unset] [(.long p1), (.long (0 : Int64))])) rfl (hb hby at_77) _ k_) ?_
        show own_Go p e below s₁ (mkF m 80 #[.val (.long p0), .second, .val (.long p1), .second, .val (.long p2), .second, .val (.int p3), .val (.long l1), .second, .val (.int (((p3.toUInt32 >>> ((2 : Int32) &&& 31).toUInt32).toInt32) &&& (3 : Int32))), .val (.long (0 : Int64)), .second, .unset, .unset, .unset, .unset, .unset, .unset, .unset] [(.long (9223372036854775807 : Int64)), (.long p1), (.long (0 : Int64))]) _
        refine own_st (fun t_ k_ => XS.land X0.here hx rfl (hb hby at_80) rfl k_) ?_
        show own_Go p e below s₁ (mkF m 81 #[.val (.long p0), .second, .val (.long p1), .second, .val (.long p2), .second, .val (.int p3), .val (.long l1), .second, .val (.int (((p3.toUInt32 >>> ((2 : Int32) &&& 31).toUInt32).toInt32) &&& (3 : Int32))), .val (.long (0 : Int64)), .second, .unset, .unset, .unset, .unset, .unset, .unset, .unset] [(.long (p1 &&& (9223372036854775807 : Int64))), (.long (0 : Int64))]) _
        obtain ⟨_, _, ⟨T17, L17, k17, n17⟩, -, X17, ⟨Lc17, hQ17, l17, y17, z17⟩, st17⟩ := Jvm.LawKit.callS X0 hx (y := (⟨"java/lang/Math", "max", "(JJ)J"⟩ : MethodName)) hown (mvT hZ (hw _ (List.mem_of_getElem? (i := 1) rfl))) (mvT hZ (hw _ (List.mem_of_getElem? (i := 2) rfl))) (mvT hZ (hw _ (List.mem_of_getElem? (i := 3) rfl))) (mvT hZ (hw _ (List.mem_of_getElem? (i := 4) rfl))) (by decide) (backOf (W := 0) (rmMax l Z a0 hw [] ((0 : Int64)) ((p1 &&& (9223372036854775807 : Int64))) h0 n0 Z0 ) hZ (hw _ (List.mem_of_getElem? (i := 4) rfl)) (hw _ (List.mem_of_getElem? (i := 3) rfl)) (by decide) (by decide)) (g := (mkF m 81 #[.val (.long p0), .second, .val (.long p1), .second, .val (.long p2), .second, .val (.int p3), .val (.long l1), .second, .val (.int (((p3.toUInt32 >>> ((2 : Int32) &&& 31).toUInt32).toInt32) &&& (3 : Int32))), .val (.long (0 : Int64)), .second, .unset, .unset, .unset, .unset, .unset, .unset, .unset] [(.long (p1 &&& (9223372036854775807 : Int64))), (.long (0 : Int64))])) rfl (by rw [hml]; rfl) (argsL := [(.long (0 : Int64)), (.long (p1 &&& (9223372036854775807 : Int64)))]) (rest := []) (lenOf pd__JJ_J rfl) rfl (by show 2 * 0 + _ ≤ _; exact Nat.le_of_eq rfl) (hb hby at_81) (fun _ _ => ⟨rfl, e0, (by decide : 0 + 0 ≤ _), (by decide : 0 + 0 ≤ _)⟩)
        dsimp only [Pt.U, Pt.locs, Pt.cells, Pt.slots] at X17 l17 y17 z17 st17 hQ17
        subst l17 y17 z17
        obtain ⟨r_17, rfl, Nq17, eH17, q17_0⟩ := hQ17
        have N17 := Fr.app N0 Nq17
        refine own_st st17 ?_
        show own_Go p e below T17 (mkF m 84 #[.val (.long p0), .second, .val (.long p1), .second, .val (.long p2), .second, .val (.int p3), .val (.long l1), .second, .val (.int (((p3.toUInt32 >>> ((2 : Int32) &&& 31).toUInt32).toInt32) &&& (3 : Int32))), .val (.long (0 : Int64)), .second, .unset, .unset, .unset, .unset, .unset, .unset, .unset] [(.long r_17)]) _
        refine own_st (fun t_ k_ => XS.lstore X17.here hx rfl (hb hby at_84) rfl (l' := #[.val (.long p0), .second, .val (.long p1), .second, .val (.long p2), .second, .val (.int p3), .val (.long l1), .second, .val (.int (((p3.toUInt32 >>> ((2 : Int32) &&& 31).toUInt32).toInt32) &&& (3 : Int32))), .val (.long (0 : Int64)), .second, .val (.long r_17), .second, .unset, .unset, .unset, .unset, .unset]) rfl k_) ?_
        show own_Go p e below T17 (mkF m 86 #[.val (.long p0), .second, .val (.long p1), .second, .val (.long p2), .second, .val (.int p3), .val (.long l1), .second, .val (.int (((p3.toUInt32 >>> ((2 : Int32) &&& 31).toUInt32).toInt32) &&& (3 : Int32))), .val (.long (0 : Int64)), .second, .val (.long r_17), .second, .unset, .unset, .unset, .unset, .unset] []) _
        obtain ⟨T18, h18, X18, e18, E18, A18, D18, -, st18⟩ := newO X17 hx hZ hown (hw _ (List.mem_of_getElem? (i := 5) rfl)) (hw _ (List.mem_of_getElem? (i := 6) rfl)) (hw _ (List.mem_of_getElem? (i := 7) rfl)) eH17 (g := (mkF m 86 #[.val (.long p0), .second, .val (.long p1), .second, .val (.long p2), .second, .val (.int p3), .val (.long l1), .second, .val (.int (((p3.toUInt32 >>> ((2 : Int32) &&& 31).toUInt32).toInt32) &&& (3 : Int32))), .val (.long (0 : Int64)), .second, .val (.long r_17), .second, .unset, .unset, .unset, .unset, .unset] [])) rfl (hb hby at_86) (by decide) (by decide)
        obtain ⟨b18, g18⟩ : ∃ z, z = h0.size := ⟨_, rfl⟩
        rw [← g18] at A18 D18 st18
        have G18 : n0 ≤ b18 := Nat.le_trans Z0 (Nat.le_of_eq g18.symm)
        have B18 : h0.size ≤ b18 := Nat.le_trans (Keep.refl h0 []).1 (Nat.le_of_eq g18.symm)
        have K19 : Keep h0 h18 [] := (Keep.refl h0 []).ext E18
        have D18_truePairs : Fld Z h18 b18 "com/example/goldweave/goldweave/engine/evaluation/PairwiseAccuracy" "truePairs" "J" (.long (0 : Int64)) := D18 (Or.inr (hw _ (List.mem_of_getElem? (i := 20) rfl))) (ty := .long) (by decide)
        have D18_linkedPairs : Fld Z h18 b18 "com/example/goldweave/goldweave/engine/evaluation/PairwiseAccuracy" "linkedPairs" "J" (.long (0 : Int64)) := D18 (Or.inr (hw _ (List.mem_of_getElem? (i := 22) rfl))) (ty := .long) (by decide)
        have D18_correctPairs : Fld Z h18 b18 "com/example/goldweave/goldweave/engine/evaluation/PairwiseAccuracy" "correctPairs" "J" (.long (0 : Int64)) := D18 (Or.inr (hw _ (List.mem_of_getElem? (i := 24) rfl))) (ty := .long) (by decide)
        refine own_st st18 ?_
        show own_Go p e below T18 (mkF m 89 #[.val (.long p0), .second, .val (.long p1), .second, .val (.long p2), .second, .val (.int p3), .val (.long l1), .second, .val (.int (((p3.toUInt32 >>> ((2 : Int32) &&& 31).toUInt32).toInt32) &&& (3 : Int32))), .val (.long (0 : Int64)), .second, .val (.long r_17), .second, .unset, .unset, .unset, .unset, .unset] [(.ref b18)]) _
        refine own_st (fun t_ k_ => XS.dup X18.here hx rfl (hb hby at_89) rfl rfl k_) ?_
        show own_Go p e below T18 (mkF m 90 #[.val (.long p0), .second, .val (.long p1), .second, .val (.long p2), .second, .val (.int p3), .val (.long l1), .second, .val (.int (((p3.toUInt32 >>> ((2 : Int32) &&& 31).toUInt32).toInt32) &&& (3 : Int32))), .val (.long (0 : Int64)), .second, .val (.long r_17), .second, .unset, .unset, .unset, .unset, .unset] [(.ref b18), (.ref b18)]) _
        refine own_st (fun t_ k_ => XS.lload X18.here hx rfl (hb hby at_90) rfl k_) ?_
        show own_Go p e below T18 (mkF m 92 #[.val (.long p0), .second, .val (.long p1), .second, .val (.long p2), .second, .val (.int p3), .val (.long l1), .second, .val (.int (((p3.toUInt32 >>> ((2 : Int32) &&& 31).toUInt32).toInt32) &&& (3 : Int32))), .val (.long (0 : Int64)), .second, .val (.long r_17), .second, .unset, .unset, .unset, .unset, .unset] [(.long r_17), (.ref b18), (.ref b18)]) _
        refine own_st (fun t_ k_ => XS.lload X18.here hx rfl (hb hby at_92) rfl k_) ?_
        show own_Go p e below T18 (mkF m 94 #[.val (.long p0), .second, .val (.long p1), .second, .val (.long p2), .second, .val (.int p3), .val (.long l1), .second, .val (.int (((p3.toUInt32 >>> ((2 : Int32) &&& 31).toUInt32).toInt32) &&& (3 : Int32))), .val (.long (0 : Int64)), .second, .val (.long r_17), .second, .unset, .unset, .unset, .unset, .unset] [(.long l1), (.long r_17), (.ref b18), (.ref b18)]) _
        refine own_st (fun t_ k_ => XS.lload X18.here hx rfl (hb hby at_94) rfl k_) ?_
        show own_Go p e below T18 (mkF m 96 #[.val (.long p0), .second, .val (.long p1), .second, .val (.long p2), .second, .val (.int p3), .val (.long l1), .second, .val (.int (((p3.toUInt32 >>> ((2 : Int32) &&& 31).toUInt32).toInt32) &&& (3 : Int32))), .val (.long (0 : Int64)), .second, .val (.long r_17), .second, .unset, .unset, .unset, .unset, .unset] [(.long (0 : Int64)), (.long l1), (.long r_17), (.ref b18), (.ref b18)]) _
        have f20 := (Nat.le_trans Z0 E18.1)
        obtain ⟨_, _, ⟨T21, L21, k21, n21⟩, -, X21, ⟨Lc21, hQ21, l21, y21, z21⟩, st21⟩ := X18.specialBack hx (y := (⟨"com/example/goldweave/goldweave/engine/evaluation/PairwiseAccuracy", "<init>", "(JJJ)V"⟩ : MethodName)) rfl hown (mvT hZ (hw _ (List.mem_of_getElem? (i := 8) rfl))) (mvT hZ (hw _ (List.mem_of_getElem? (i := 9) rfl))) (mvT hZ (hw _ (List.mem_of_getElem? (i := 10) rfl))) (by decide) (backOf (W := 1) (rmPA l Z a0 hw [] b18 r_17 l1 ((0 : Int64)) ((.long (0 : Int64))) ((.long (0 : Int64))) ((.long (0 : Int64))) h18 n0 f20 A18 D18_truePairs D18_linkedPairs D18_correctPairs G18 hc0 q17_0.1 hct) hZ (hw _ (List.mem_of_getElem? (i := 10) rfl)) (hw _ (List.mem_of_getElem? (i := 7) rfl)) (by decide) (by decide)) (g := (mkF m 96 #[.val (.long p0), .second, .val (.long p1), .second, .val (.long p2), .second, .val (.int p3), .val (.long l1), .second, .val (.int (((p3.toUInt32 >>> ((2 : Int32) &&& 31).toUInt32).toInt32) &&& (3 : Int32))), .val (.long (0 : Int64)), .second, .val (.long r_17), .second, .unset, .unset, .unset, .unset, .unset] [(.long (0 : Int64)), (.long l1), (.long r_17), (.ref b18), (.ref b18)])) rfl (by rw [hml]; rfl) (Steps.refl _) (a := b18) (argsL := [(.long r_17), (.long l1), (.long (0 : Int64))]) (rest := [(.ref b18)]) (lenOf pd__JJJ_V rfl) rfl (by show 2 * 0 + _ ≤ _; exact Nat.le_of_eq rfl) (hb hby at_96) (fun _ _ => ⟨rfl, e18, (by decide : 1 + 0 ≤ _), (by decide : 3 + 0 ≤ _)⟩)
        dsimp only [Pt.U, Pt.locs, Pt.cells, Pt.slots] at X21 l21 y21 z21 st21 hQ21
        subst l21 y21 z21
        obtain ⟨rfl, Nq21, Kq21, q21_0, q21_1, q21_2, q21_3⟩ := hQ21
        have N21 := Fr.app N17 Nq21
        have K22 : Keep h0 T21.heap [] := K19.trans Kq21 (allS (Or.inr B18) all0)
        refine own_tr st21 ?_
        show own_Go p e below T21 (mkF m 99 #[.val (.long p0), .second, .val (.long p1), .second, .val (.long p2), .second, .val (.int p3), .val (.long l1), .second, .val (.int (((p3.toUInt32 >>> ((2 : Int32) &&& 31).toUInt32).toInt32) &&& (3 : Int32))), .val (.long (0 : Int64)), .second, .val (.long r_17), .second, .unset, .unset, .unset, .unset, .unset] [(.ref b18)]) _
        refine own_st (fun t_ k_ => XS.astore X21.here hx rfl (hb hby at_99) rfl rfl (l' := #[.val (.long p0), .second, .val (.long p1), .second, .val (.long p2), .second, .val (.int p3), .val (.long l1), .second, .val (.int (((p3.toUInt32 >>> ((2 : Int32) &&& 31).toUInt32).toInt32) &&& (3 : Int32))), .val (.long (0 : Int64)), .second, .val (.long r_17), .second, .val (.ref b18), .unset, .unset, .unset, .unset]) rfl k_) ?_
        show own_Go p e below T21 (mkF m 101 #[.val (.long p0), .second, .val (.long p1), .second, .val (.long p2), .second, .val (.int p3), .val (.long l1), .second, .val (.int (((p3.toUInt32 >>> ((2 : Int32) &&& 31).toUInt32).toInt32) &&& (3 : Int32))), .val (.long (0 : Int64)), .second, .val (.long r_17), .second, .val (.ref b18), .unset, .unset, .unset, .unset] []) _
        refine own_st (fun t_ k_ => XS.aload X21.here hx rfl (hb hby at_101) rfl rfl k_) ?_
        show own_Go p e below T21 (mkF m 103 #[.val (.long p0), .second, .val (.long p1), .second, .val (.long p2), .second, .val (.int p3), .val (.long l1), .second, .val (.int (((p3.toUInt32 >>> ((2 : Int32) &&& 31).toUInt32).toInt32) &&& (3 : Int32))), .val (.long (0 : Int64)), .second, .val (.long r_17), .second, .val (.ref b18), .unset, .unset, .unset, .unset] [(.ref b18)]) _
        have f23 := (Nat.le_trans f20 Kq21.1)
        obtain ⟨cq24, kq24, qa24, qb24, qc24⟩ := isOf hZ rfl q21_0
        obtain ⟨_, _, ⟨T24, L24, k24, n24⟩, -, X24, ⟨Lc24, hQ24, l24, y24, z24⟩, st24⟩ := X21.virtualBack hx (y := (⟨"com/example/goldweave/goldweave/engine/evaluation/PairwiseAccuracy", "precision", "()D"⟩ : MethodName)) (z := (⟨"com/example/goldweave/goldweave/engine/evaluation/PairwiseAccuracy", "precision", "()D"⟩ : MethodName)) hown (mvT hZ (hw _ (List.mem_of_getElem? (i := 25) rfl))) (mvT hZ (hw _ (List.mem_of_getElem? (i := 26) rfl))) (notFace_of_selects (args := #[]) (mvT hZ (hw _ (List.mem_of_getElem? (i := 28) rfl)))) (mvT hZ (hw _ (List.mem_of_getElem? (i := 28) rfl))) (mvT hZ (hw _ (List.mem_of_getElem? (i := 27) rfl))) (by decide) (backOf (W := 0) (rmRe1 l Z a0 hw [] b18 ((0 : Int64)) l1 T21.heap n0 f23 q21_3 q21_2 hc0 htp) hZ (hw _ (List.mem_of_getElem? (i := 29) rfl)) (hw _ (List.mem_of_getElem? (i := 7) rfl)) (by decide) (by decide)) qa24 qc24 (g := (mkF m 103 #[.val (.long p0), .second, .val (.long p1), .second, .val (.long p2), .second, .val (.int p3), .val (.long l1), .second, .val (.int (((p3.toUInt32 >>> ((2 : Int32) &&& 31).toUInt32).toInt32) &&& (3 : Int32))), .val (.long (0 : Int64)), .second, .val (.long r_17), .second, .val (.ref b18), .unset, .unset, .unset, .unset] [(.ref b18)])) rfl (by rw [hml]; rfl) (Steps.refl _) (argsL := []) (rest := []) (lenOf pd___D rfl) rfl (by show 2 * 0 + _ ≤ _; exact Nat.le_of_eq rfl) (hb hby at_103) (fun _ _ => ⟨rfl, rfl, (by decide : 1 + 0 ≤ _), (by decide : 3 + 0 ≤ _)⟩)
        dsimp only [Pt.U, Pt.locs, Pt.cells, Pt.slots] at X24 l24 y24 z24 st24 hQ24
        subst l24 y24 z24
        obtain ⟨rfl, Nq24, eH24⟩ := hQ24
        have N24 := Fr.app N21 Nq24
        refine own_tr st24 ?_
        show own_Go p e below T24 (mkF m 106 #[.val (.long p0), .second, .val (.long p1), .second, .val (.long p2), .second, .val (.int p3), .val (.long l1), .second, .val (.int (((p3.toUInt32 >>> ((2 : Int32) &&& 31).toUInt32).toInt32) &&& (3 : Int32))), .val (.long (0 : Int64)), .second, .val (.long r_17), .second, .val (.ref b18), .unset, .unset, .unset, .unset] [(.double (FP.ddiv (FP.l2d (0 : Int64)) (FP.l2d l1)))]) _
        refine own_st (fun t_ k_ => XS.dstore X24.here hx rfl (hb hby at_106) rfl (l' := #[.val (.long p0), .second, .val (.long p1), .second, .val (.long p2), .second, .val (.int p3), .val (.long l1), .second, .val (.int (((p3.toUInt32 >>> ((2 : Int32) &&& 31).toUInt32).toInt32) &&& (3 : Int32))), .val (.long (0 : Int64)), .second, .val (.long r_17), .second, .val (.ref b18), .val (.double (FP.ddiv (FP.l2d (0 : Int64)) (FP.l2d l1))), .second, .unset, .unset]) rfl k_) ?_
        show own_Go p e below T24 (mkF m 108 #[.val (.long p0), .second, .val (.long p1), .second, .val (.long p2), .second, .val (.int p3), .val (.long l1), .second, .val (.int (((p3.toUInt32 >>> ((2 : Int32) &&& 31).toUInt32).toInt32) &&& (3 : Int32))), .val (.long (0 : Int64)), .second, .val (.long r_17), .second, .val (.ref b18), .val (.double (FP.ddiv (FP.l2d (0 : Int64)) (FP.l2d l1))), .second, .unset, .unset] []) _
        refine own_st (fun t_ k_ => XS.lload X24.here hx rfl (hb hby at_108) rfl k_) ?_
        show own_Go p e below T24 (mkF m 110 #[.val (.long p0), .second, .val (.long p1), .second, .val (.long p2), .second, .val (.int p3), .val (.long l1), .second, .val (.int (((p3.toUInt32 >>> ((2 : Int32) &&& 31).toUInt32).toInt32) &&& (3 : Int32))), .val (.long (0 : Int64)), .second, .val (.long r_17), .second, .val (.ref b18), .val (.double (FP.ddiv (FP.l2d (0 : Int64)) (FP.l2d l1))), .second, .unset, .unset] [(.long l1)]) _
        refine own_st (fun t_ k_ => XS.lconst X24.here hx rfl (hb hby at_110) k_) ?_
        show own_Go p e below T24 (mkF m 111 #[.val (.long p0), .second, .val (.long p1), .second, .val (.long p2), .second, .val (.int p3), .val (.long l1), .second, .val (.int (((p3.toUInt32 >>> ((2 : Int32) &&& 31).toUInt32).toInt32) &&& (3 : Int32))), .val (.long (0 : Int64)), .second, .val (.long r_17), .second, .val (.ref b18), .val (.double (FP.ddiv (FP.l2d (0 : Int64)) (FP.l2d l1))), .second, .unset, .unset] [(.long (0 : Int64)), (.long l1)]) _
        refine own_st (fun t_ k_ => XS.lcmp X24.here hx rfl (hb hby at_111) rfl k_) ?_
        show own_Go p e below T24 (mkF m 112 #[.val (.long p0), .second, .val (.long p1), .second, .val (.long p2), .second, .val (.int p3), .val (.long l1), .second, .val (.int (((p3.toUInt32 >>> ((2 : Int32) &&& 31).toUInt32).toInt32) &&& (3 : Int32))), .val (.long (0 : Int64)), .second, .val (.long r_17), .second, .val (.ref b18), .val (.double (FP.ddiv (FP.l2d (0 : Int64)) (FP.l2d l1))), .second, .unset, .unset] [(.int (lcmpW l1 (0 : Int64)))]) _
        refine own_st (fun t_ k_ => XS.ifYes X24.here hx rfl (pc0 := 112) (pc' := 128) rfl (hb hby at_112) rfl ((if0 _ _).trans (feq htn).2) (by decide) (by decide) k_) ?_
        show own_Go p e below T24 (mkF m 128 #[.val (.long p0), .second, .val (.long p1), .second, .val (.long p2), .second, .val (.int p3), .val (.long l1), .second, .val (.int (((p3.toUInt32 >>> ((2 : Int32) &&& 31).toUInt32).toInt32) &&& (3 : Int32))), .val (.long (0 : Int64)), .second, .val (.long r_17), .second, .val (.ref b18), .val (.double (FP.ddiv (FP.l2d (0 : Int64)) (FP.l2d l1))), .second, .unset, .unset] []) _
        refine own_st (fun t_ k_ => XS.lload X24.here hx rfl (hb hby at_128) rfl k_) ?_
        show own_Go p e below T24 (mkF m 130 #[.val (.long p0), .second, .val (.long p1), .second, .val (.long p2), .second, .val (.int p3), .val (.long l1), .second, .val (.int (((p3.toUInt32 >>> ((2 : Int32) &&& 31).toUInt32).toInt32) &&& (3 : Int32))), .val (.long (0 : Int64)), .second, .val (.long r_17), .second, .val (.ref b18), .val (.double (FP.ddiv (FP.l2d (0 : Int64)) (FP.l2d l1))), .second, .unset, .unset] [(.long (0 : Int64))]) _
        refine own_st (fun t_ k_ => XS.l2dS X24.here hx rfl (hb hby at_130) rfl rfl k_) ?_
        show own_Go p e below T24 (mkF m 131 #[.val (.long p0), .second, .val (.long p1), .second, .val (.long p2), .second, .val (.int p3), .val (.long l1), .second, .val (.int (((p3.toUInt32 >>> ((2 : Int32) &&& 31).toUInt32).toInt32) &&& (3 : Int32))), .val (.long (0 : Int64)), .second, .val (.long r_17), .second, .val (.ref b18), .val (.double (FP.ddiv (FP.l2d (0 : Int64)) (FP.l2d l1))), .second, .unset, .unset] [(.double (FP.l2d (0 : Int64)))]) _
        refine own_st (fun t_ k_ => XS.lload X24.here hx rfl (hb hby at_131) rfl k_) ?_
        show own_Go p e below T24 (mkF m 133 #[.val (.long p0), .second, .val (.long p1), .second, .val (.long p2), .second, .val (.int p3), .val (.long l1), .second, .val (.int (((p3.toUInt32 >>> ((2 : Int32) &&& 31).toUInt32).toInt32) &&& (3 : Int32))), .val (.long (0 : Int64)), .second, .val (.long r_17), .second, .val (.ref b18), .val (.double (FP.ddiv (FP.l2d (0 : Int64)) (FP.l2d l1))), .second, .unset, .unset] [(.long l1), (.double (FP.l2d (0 : Int64)))]) _
        refine own_st (fun t_ k_ => XS.l2dS X24.here hx rfl (hb hby at_133) rfl rfl k_) ?_
        show own_Go p e below T24 (mkF m 134 #[.val (.long p0), .second, .val (.long p1), .second, .val (.long p2), .second, .val (.int p3), .val (.long l1), .second, .val (.int (((p3.toUInt32 >>> ((2 : Int32) &&& 31).toUInt32).toInt32) &&& (3 : Int32))), .val (.long (0 : Int64)), .second, .val (.long r_17), .second, .val (.ref b18), .val (.double (FP.ddiv (FP.l2d (0 : Int64)) (FP.l2d l1))), .second, .unset, .unset] [(.double (FP.l2d l1)), (.double (FP.l2d (0 : Int64)))]) _
        refine own_st (fun t_ k_ => XS.ddivS X24.here hx rfl (hb hby at_134) rfl (own_q_nn hc0 htp) rfl k_) ?_
        show own_Go p e below T24 (mkF m 135 #[.val (.long p0), .second, .val (.long p1), .second, .val (.long p2), .second, .val (.int p3), .val (.long l1), .second, .val (.int (((p3.toUInt32 >>> ((2 : Int32) &&& 31).toUInt32).toInt32) &&& (3 : Int32))), .val (.long (0 : Int64)), .second, .val (.long r_17), .second, .val (.ref b18), .val (.double (FP.ddiv (FP.l2d (0 : Int64)) (FP.l2d l1))), .second, .unset, .unset] [(.double (FP.ddiv (FP.l2d (0 : Int64)) (FP.l2d l1)))]) _
        refine own_st (fun t_ k_ => XS.dstore X24.here hx rfl (hb hby at_135) rfl (l' := #[.val (.long p0), .second, .val (.long p1), .second, .val (.long p2), .second, .val (.int p3), .val (.long l1), .second, .val (.int (((p3.toUInt32 >>> ((2 : Int32) &&& 31).toUInt32).toInt32) &&& (3 : Int32))), .val (.long (0 : Int64)), .second, .val (.long r_17), .second, .val (.ref b18), .val (.double (FP.ddiv (FP.l2d (0 : Int64)) (FP.l2d l1))), .second, .val (.double (FP.ddiv (FP.l2d (0 : Int64)) (FP.l2d l1))), .second]) rfl k_) ?_
        show own_Go p e below T24 (mkF m 137 #[.val (.long p0), .second, .val (.long p1), .second, .val (.long p2), .second, .val (.int p3), .val (.long l1), .second, .val (.int (((p3.toUInt32 >>> ((2 : Int32) &&& 31).toUInt32).toInt32) &&& (3 : Int32))), .val (.long (0 : Int64)), .second, .val (.long r_17), .second, .val (.ref b18), .val (.double (FP.ddiv (FP.l2d (0 : Int64)) (FP.l2d l1))), .second, .val (.double (FP.ddiv (FP.l2d (0 : Int64)) (FP.l2d l1))), .second] []) _
        refine own_st (fun t_ k_ => XS.dload X24.here hx rfl (hb hby at_137) rfl k_) ?_
        show own_Go p e below T24 (mkF m 139 #[.val (.long p0), .second, .val (.long p1), .second, .val (.long p2), .second, .val (.int p3), .val (.long l1), .second, .val (.int (((p3.toUInt32 >>> ((2 : Int32) &&& 31).toUInt32).toInt32) &&& (3 : Int32))), .val (.long (0 : Int64)), .second, .val (.long r_17), .second, .val (.ref b18), .val (.double (FP.ddiv (FP.l2d (0 : Int64)) (FP.l2d l1))), .second, .val (.double (FP.ddiv (FP.l2d (0 : Int64)) (FP.l2d l1))), .second] [(.double (FP.ddiv (FP.l2d (0 : Int64)) (FP.l2d l1)))]) _
        refine own_st (fun t_ k_ => XS.dload X24.here hx rfl (hb hby at_139) rfl k_) ?_
        show own_Go p e below T24 (mkF m 141 #[.val (.long p0), .second, .val (.long p1), .second, .val (.long p2), .second, .val (.int p3), .val (.long l1), .second, .val (.int (((p3.toUInt32 >>> ((2 : Int32) &&& 31).toUInt32).toInt32) &&& (3 : Int32))), .val (.long (0 : Int64)), .second, .val (.long r_17), .second, .val (.ref b18), .val (.double (FP.ddiv (FP.l2d (0 : Int64)) (FP.l2d l1))), .second, .val (.double (FP.ddiv (FP.l2d (0 : Int64)) (FP.l2d l1))), .second] [(.double (FP.ddiv (FP.l2d (0 : Int64)) (FP.l2d l1))), (.double (FP.ddiv (FP.l2d (0 : Int64)) (FP.l2d l1)))]) _
        refine own_st (fun t_ k_ => XS.dcmpS X24.here hx rfl (hb hby at_141) rfl (dcmpV_self (own_q_nn hc0 htp) _) k_) ?_
        show own_Go p e below T24 (mkF m 142 #[.val (.long p0), .second, .val (.long p1), .second, .val (.long p2), .second, .val (.int p3), .val (.long l1), .second, .val (.int (((p3.toUInt32 >>> ((2 : Int32) &&& 31).toUInt32).toInt32) &&& (3 : Int32))), .val (.long (0 : Int64)), .second, .val (.long r_17), .second, .val (.ref b18), .val (.double (FP.ddiv (FP.l2d (0 : Int64)) (FP.l2d l1))), .second, .val (.double (FP.ddiv (FP.l2d (0 : Int64)) (FP.l2d l1))), .second] [(.int (0 : Int32))]) _
        refine own_st (fun t_ k_ => XS.ifYes X24.here hx rfl (pc0 := 142) (pc' := 147) rfl (hb hby at_142) rfl (by decide) (by decide) (by decide) k_) ?_
        show own_Go p e below T24 (mkF m 147 #[.val (.long p0), .second, .val (.long p1), .second, .val (.long p2), .second, .val (.int p3), .val (.long l1), .second, .val (.int (((p3.toUInt32 >>> ((2 : Int32) &&& 31).toUInt32).toInt32) &&& (3 : Int32))), .val (.long (0 : Int64)), .second, .val (.long r_17), .second, .val (.ref b18), .val (.double (FP.ddiv (FP.l2d (0 : Int64)) (FP.l2d l1))), .second, .val (.double (FP.ddiv (FP.l2d (0 : Int64)) (FP.l2d l1))), .second] []) _
        refine own_st (fun t_ k_ => XS.dload X24.here hx rfl (hb hby at_147) rfl k_) ?_
        show own_Go p e below T24 (mkF m 149 #[.val (.long p0), .second, .val (.long p1), .second, .val (.long p2), .second, .val (.int p3), .val (.long l1), .second, .val (.int (((p3.toUInt32 >>> ((2 : Int32) &&& 31).toUInt32).toInt32) &&& (3 : Int32))), .val (.long (0 : Int64)), .second, .val (.long r_17), .second, .val (.ref b18), .val (.double (FP.ddiv (FP.l2d (0 : Int64)) (FP.l2d l1))), .second, .val (.double (FP.ddiv (FP.l2d (0 : Int64)) (FP.l2d l1))), .second] [(.double (FP.ddiv (FP.l2d (0 : Int64)) (FP.l2d l1)))]) _
        refine own_st (fun t_ k_ => XS.dconst0 X24.here hx rfl (hb hby at_149) rfl k_) ?_
        show own_Go p e below T24 (mkF m 150 #[.val (.long p0), .second, .val (.long p1), .second, .val (.long p2), .second, .val (.int p3), .val (.long l1), .second, .val (.int (((p3.toUInt32 >>> ((2 : Int32) &&& 31).toUInt32).toInt32) &&& (3 : Int32))), .val (.long (0 : Int64)), .second, .val (.long r_17), .second, .val (.ref b18), .val (.double (FP.ddiv (FP.l2d (0 : Int64)) (FP.l2d l1))), .second, .val (.double (FP.ddiv (FP.l2d (0 : Int64)) (FP.l2d l1))), .second] [(.double FP.dconst0), (.double (FP.ddiv (FP.l2d (0 : Int64)) (FP.l2d l1)))]) _
        refine own_st (fun t_ k_ => XS.dcmpS X24.here hx rfl (hb hby at_150) rfl rfl k_) ?_
        show own_Go p e below T24 (mkF m 151 #[.val (.long p0), .second, .val (.long p1), .second, .val (.long p2), .second, .val (.int p3), .val (.long l1), .second, .val (.int (((p3.toUInt32 >>> ((2 : Int32) &&& 31).toUInt32).toInt32) &&& (3 : Int32))), .val (.long (0 : Int64)), .second, .val (.long r_17), .second, .val (.ref b18), .val (.double (FP.ddiv (FP.l2d (0 : Int64)) (FP.l2d l1))), .second, .val (.double (FP.ddiv (FP.l2d (0 : Int64)) (FP.l2d l1))), .second] [(.int (cmpValue (FP.dcmp (FP.ddiv (FP.l2d (0 : Int64)) (FP.l2d l1)) FP.dconst0) .l))]) _
        refine own_st (fun t_ k_ => XS.ifNo X24.here hx rfl (hb hby at_151) rfl ((if0 _ _).trans (flt (own_q_ge0 hc0 htp)).1) k_) ?_
        show own_Go p e below T24 (mkF m 154 #[.val (.long p0), .second, .val (.long p1), .second, .val (.long p2), .second, .val (.int p3), .val (.long l1), .second, .val (.int (((p3.toUInt32 >>> ((2 : Int32) &&& 31).toUInt32).toInt32) &&& (3 : Int32))), .val (.long (0 : Int64)), .second, .val (.long r_17), .second, .val (.ref b18), .val (.double (FP.ddiv (FP.l2d (0 : Int64)) (FP.l2d l1))), .second, .val (.double (FP.ddiv (FP.l2d (0 : Int64)) (FP.l2d l1))), .second] []) _
        refine own_st (fun t_ k_ => XS.dload X24.here hx rfl (hb hby at_154) rfl k_) ?_
        show own_Go p e below T24 (mkF m 156 #[.val (.long p0), .second, .val (.long p1), .second, .val (.long p2), .second, .val (.int p3), .val (.long l1), .second, .val (.int (((p3.toUInt32 >>> ((2 : Int32) &&& 31).toUInt32).toInt32) &&& (3 : Int32))), .val (.long (0 : Int64)), .second, .val (.long r_17), .second, .val (.ref b18), .val (.double (FP.ddiv (FP.l2d (0 : Int64)) (FP.l2d l1))), .second, .val (.double (FP.ddiv (FP.l2d (0 : Int64)) (FP.l2d l1))), .second] [(.double (FP.ddiv (FP.l2d (0 : Int64)) (FP.l2d l1)))]) _
        refine own_st (fun t_ k_ => XS.dconst1 X24.here hx rfl (hb hby at_156) rfl k_) ?_
        show own_Go p e below T24 (mkF m 157 #[.val (.long p0), .second, .val (.long p1), .second, .val (.long p2), .second, .val (.int p3), .val (.long l1), .second, .val (.int (((p3.toUInt32 >>> ((2 : Int32) &&& 31).toUInt32).toInt32) &&& (3 : Int32))), .val (.long (0 : Int64)), .second, .val (.long r_17), .second, .val (.ref b18), .val (.double (FP.ddiv (FP.l2d (0 : Int64)) (FP.l2d l1))), .second, .val (.double (FP.ddiv (FP.l2d (0 : Int64)) (FP.l2d l1))), .second] [(.double FP.dconst1), (.double (FP.ddiv (FP.l2d (0 : Int64)) (FP.l2d l1)))]) _
        refine own_st (fun t_ k_ => XS.dcmpS X24.here hx rfl (hb hby at_157) rfl rfl k_) ?_
        show own_Go p e below T24 (mkF m 158 #[.val (.long p0), .second, .val (.long p1), .second, .val (.long p2), .second, .val (.int p3), .val (.long l1), .second, .val (.int (((p3.toUInt32 >>> ((2 : Int32) &&& 31).toUInt32).toInt32) &&& (3 : Int32))), .val (.long (0 : Int64)), .second, .val (.long r_17), .second, .val (.ref b18), .val (.double (FP.ddiv (FP.l2d (0 : Int64)) (FP.l2d l1))), .second, .val (.double (FP.ddiv (FP.l2d (0 : Int64)) (FP.l2d l1))), .second] [(.int (cmpValue (FP.dcmp (FP.ddiv (FP.l2d (0 : Int64)) (FP.l2d l1)) FP.dconst1) .g))]) _
        refine own_st (fun t_ k_ => XS.ifYes X24.here hx rfl (pc0 := 158) (pc' := 163) rfl (hb hby at_158) rfl ((if0 _ _).trans (flt (own_q_le1 hc0 hct htp)).2.2.2) (by decide) (by decide) k_) ?_
        show own_Go p e below T24 (mkF m 163 #[.val (.long p0), .second, .val (.long p1), .second, .val (.long p2), .second, .val (.int p3), .val (.long l1), .second, .val (.int (((p3.toUInt32 >>> ((2 : Int32) &&& 31).toUInt32).toInt32) &&& (3 : Int32))), .val (.long (0 : Int64)), .second, .val (.long r_17), .second, .val (.ref b18), .val (.double (FP.ddiv (FP.l2d (0 : Int64)) (FP.l2d l1))), .second, .val (.double (FP.ddiv (FP.l2d (0 : Int64)) (FP.l2d l1))), .second] []) _
        by_cases hz1 : lcmpW (0 : Int64) (0 : Int64) = (0 : Int32)
        · skip
          refine own_st (fun t_ k_ => XS.dload X24.here hx rfl (hb hby at_163) rfl k_) ?_
          show own_Go p e below T24 (mkF m 165 #[.val (.long p0), .second, .val (.long p1), .second, .val (.long p2), .second, .val (.int p3), .val (.long l1), .second, .val (.int (((p3.toUInt32 >>> ((2 : Int32) &&& 31).toUInt32).toInt32) &&& (3 : Int32))), .val (.long (0 : Int64)), .second, .val (.long r_17), .second, .val (.ref b18), .val (.double (FP.ddiv (FP.l2d (0 : Int64)) (FP.l2d l1))), .second, .val (.double (FP.ddiv (FP.l2d (0 : Int64)) (FP.l2d l1))), .second] [(.double (FP.ddiv (FP.l2d (0 : Int64)) (FP.l2d l1)))]) _
          refine own_st (fun t_ k_ => XS.dconst0 X24.here hx rfl (hb hby at_165) rfl k_) ?_
          show own_Go p e below T24 (mkF m 166 #[.val (.long p0), .second, .val (.long p1), .second, .val (.long p2), .second, .val (.int p3), .val (.long l1), .second, .val (.int (((p3.toUInt32 >>> ((2 : Int32) &&& 31).toUInt32).toInt32) &&& (3 : Int32))), .val (.long (0 : Int64)), .second, .val (.long r_17), .second, .val (.ref b18), .val (.double (FP.ddiv (FP.l2d (0 : Int64)) (FP.l2d l1))), .second, .val (.double (FP.ddiv (FP.l2d (0 : Int64)) (FP.l2d l1))), .second] [(.double FP.dconst0), (.double (FP.ddiv (FP.l2d (0 : Int64)) (FP.l2d l1)))]) _
          refine own_st (fun t_ k_ => XS.dcmpS X24.here hx rfl (hb hby at_166) rfl (own_q_eq0 hz1 htp) k_) ?_
          show own_Go p e below T24 (mkF m 167 #[.val (.long p0), .second, .val (.long p1), .second, .val (.long p2), .second, .val (.int p3), .val (.long l1), .second, .val (.int (((p3.toUInt32 >>> ((2 : Int32) &&& 31).toUInt32).toInt32) &&& (3 : Int32))), .val (.long (0 : Int64)), .second, .val (.long r_17), .second, .val (.ref b18), .val (.double (FP.ddiv (FP.l2d (0 : Int64)) (FP.l2d l1))), .second, .val (.double (FP.ddiv (FP.l2d (0 : Int64)) (FP.l2d l1))), .second] [(.int (0 : Int32))]) _
          refine own_st (fun t_ k_ => XS.ifNo X24.here hx rfl (hb hby at_167) rfl (by decide) k_) ?_
          show own_Go p e below T24 (mkF m 170 #[.val (.long p0), .second, .val (.long p1), .second, .val (.long p2), .second, .val (.int p3), .val (.long l1), .second, .val (.int (((p3.toUInt32 >>> ((2 : Int32) &&& 31).toUInt32).toInt32) &&& (3 : Int32))), .val (.long (0 : Int64)), .second, .val (.long r_17), .second, .val (.ref b18), .val (.double (FP.ddiv (FP.l2d (0 : Int64)) (FP.l2d l1))), .second, .val (.double (FP.ddiv (FP.l2d (0 : Int64)) (FP.l2d l1))), .second] []) _
          refine own_st (fun t_ k_ => XS.iconst X24.here hx rfl (hb hby at_170) k_) ?_
          show own_Go p e below T24 (mkF m 171 #[.val (.long p0), .second, .val (.long p1), .second, .val (.long p2), .second, .val (.int p3), .val (.long l1), .second, .val (.int (((p3.toUInt32 >>> ((2 : Int32) &&& 31).toUInt32).toInt32) &&& (3 : Int32))), .val (.long (0 : Int64)), .second, .val (.long r_17), .second, .val (.ref b18), .val (.double (FP.ddiv (FP.l2d (0 : Int64)) (FP.l2d l1))), .second, .val (.double (FP.ddiv (FP.l2d (0 : Int64)) (FP.l2d l1))), .second] [(.int (1 : Int32))]) _
          refine own_st (fun t_ k_ => XS.goto X24.here hx rfl (pc0 := 171) (pc' := 175) rfl (hb hby at_171) (by decide) (by decide) k_) ?_
          show own_Go p e below T24 (mkF m 175 #[.val (.long p0), .second, .val (.long p1), .second, .val (.long p2), .second, .val (.int p3), .val (.long l1), .second, .val (.int (((p3.toUInt32 >>> ((2 : Int32) &&& 31).toUInt32).toInt32) &&& (3 : Int32))), .val (.long (0 : Int64)), .second, .val (.long r_17), .second, .val (.ref b18), .val (.double (FP.ddiv (FP.l2d (0 : Int64)) (FP.l2d l1))), .second, .val (.double (FP.ddiv (FP.l2d (0 : Int64)) (FP.l2d l1))), .second] [(.int (1 : Int32))]) _
          refine own_st (fun t_ k_ => XS.lload X24.here hx rfl (hb hby at_175) rfl k_) ?_
          show own_Go p e below T24 (mkF m 177 #[.val (.long p0), .second, .val (.long p1), .second, .val (.long p2), .second, .val (.int p3), .val (.long l1), .second, .val (.int (((p3.toUInt32 >>> ((2 : Int32) &&& 31).toUInt32).toInt32) &&& (3 : Int32))), .val (.long (0 : Int64)), .second, .val (.long r_17), .second, .val (.ref b18), .val (.double (FP.ddiv (FP.l2d (0 : Int64)) (FP.l2d l1))), .second, .val (.double (FP.ddiv (FP.l2d (0 : Int64)) (FP.l2d l1))), .second] [(.long (0 : Int64)), (.int (1 : Int32))]) _
          refine own_st (fun t_ k_ => XS.lconst X24.here hx rfl (hb hby at_177) k_) ?_
          show own_Go p e below T24 (mkF m 178 #[.val (.long p0), .second, .val (.long p1), .second, .val (.long p2), .second, .val (.int p3), .val (.long l1), .second, .val (.int (((p3.toUInt32 >>> ((2 : Int32) &&& 31).toUInt32).toInt32) &&& (3 : Int32))), .val (.long (0 : Int64)), .second, .val (.long r_17), .second, .val (.ref b18), .val (.double (FP.ddiv (FP.l2d (0 : Int64)) (FP.l2d l1))), .second, .val (.double (FP.ddiv (FP.l2d (0 : Int64)) (FP.l2d l1))), .second] [(.long (0 : Int64)), (.long (0 : Int64)), (.int (1 : Int32))]) _
          refine own_st (fun t_ k_ => XS.lcmp X24.here hx rfl (hb hby at_178) rfl k_) ?_
          show own_Go p e below T24 (mkF m 179 #[.val (.long p0), .second, .val (.long p1), .second, .val (.long p2), .second, .val (.int p3), .val (.long l1), .second, .val (.int (((p3.toUInt32 >>> ((2 : Int32) &&& 31).toUInt32).toInt32) &&& (3 : Int32))), .val (.long (0 : Int64)), .second, .val (.long r_17), .second, .val (.ref b18), .val (.double (FP.ddiv (FP.l2d (0 : Int64)) (FP.l2d l1))), .second, .val (.double (FP.ddiv (FP.l2d (0 : Int64)) (FP.l2d l1))), .second] [(.int (lcmpW (0 : Int64) (0 : Int64))), (.int (1 : Int32))]) _
          refine own_st (fun t_ k_ => XS.ifNo X24.here hx rfl (hb hby at_179) rfl ((if0 _ _).trans (teq hz1).2) k_) ?_
          show own_Go p e below T24 (mkF m 182 #[.val (.long p0), .second, .val (.long p1), .second, .val (.long p2), .second, .val (.int p3), .val (.long l1), .second, .val (.int (((p3.toUInt32 >>> ((2 : Int32) &&& 31).toUInt32).toInt32) &&& (3 : Int32))), .val (.long (0 : Int64)), .second, .val (.long r_17), .second, .val (.ref b18), .val (.double (FP.ddiv (FP.l2d (0 : Int64)) (FP.l2d l1))), .second, .val (.double (FP.ddiv (FP.l2d (0 : Int64)) (FP.l2d l1))), .second] [(.int (1 : Int32))]) _
          refine own_st (fun t_ k_ => XS.iconst X24.here hx rfl (hb hby at_182) k_) ?_
          show own_Go p e below T24 (mkF m 183 #[.val (.long p0), .second, .val (.long p1), .second, .val (.long p2), .second, .val (.int p3), .val (.long l1), .second, .val (.int (((p3.toUInt32 >>> ((2 : Int32) &&& 31).toUInt32).toInt32) &&& (3 : Int32))), .val (.long (0 : Int64)), .second, .val (.long r_17), .second, .val (.ref b18), .val (.double (FP.ddiv (FP.l2d (0 : Int64)) (FP.l2d l1))), .second, .val (.double (FP.ddiv (FP.l2d (0 : Int64)) (FP.l2d l1))), .second] [(.int (1 : Int32)), (.int (1 : Int32))]) _
          refine own_st (fun t_ k_ => XS.goto X24.here hx rfl (pc0 := 183) (pc' := 187) rfl (hb hby at_183) (by decide) (by decide) k_) ?_
          show own_Go p e below T24 (mkF m 187 #[.val (.long p0), .second, .val (.long p1), .second, .val (.long p2), .second, .val (.int p3), .val (.long l1), .second, .val (.int (((p3.toUInt32 >>> ((2 : Int32) &&& 31).toUInt32).toInt32) &&& (3 : Int32))), .val (.long (0 : Int64)), .second, .val (.long r_17), .second, .val (.ref b18), .val (.double (FP.ddiv (FP.l2d (0 : Int64)) (FP.l2d l1))), .second, .val (.double (FP.ddiv (FP.l2d (0 : Int64)) (FP.l2d l1))), .second] [(.int (1 : Int32)), (.int (1 : Int32))]) _
          refine own_st (fun t_ k_ => XS.icmpYes X24.here hx rfl (pc0 := 187) (pc' := 192) rfl (hb hby at_187) rfl (by decide) (by decide) (by decide) k_) ?_
          show own_Go p e below T24 (mkF m 192 #[.val (.long p0), .second, .val (.long p1), .second, .val (.long p2), .second, .val (.int p3), .val (.long l1), .second, .val (.int (((p3.toUInt32 >>> ((2 : Int32) &&& 31).toUInt32).toInt32) &&& (3 : Int32))), .val (.long (0 : Int64)), .second, .val (.long r_17), .second, .val (.ref b18), .val (.double (FP.ddiv (FP.l2d (0 : Int64)) (FP.l2d l1))), .second, .val (.double (FP.ddiv (FP.l2d (0 : Int64)) (FP.l2d l1))), .second] []) _
          refine own_st (fun t_ k_ => XS.lload X24.here hx rfl (hb hby at_192) rfl k_) ?_
          show own_Go p e below T24 (mkF m 194 #[.val (.long p0), .second, .val (.long p1), .second, .val (.long p2), .second, .val (.int p3), .val (.long l1), .second, .val (.int (((p3.toUInt32 >>> ((2 : Int32) &&& 31).toUInt32).toInt32) &&& (3 : Int32))), .val (.long (0 : Int64)), .second, .val (.long r_17), .second, .val (.ref b18), .val (.double (FP.ddiv (FP.l2d (0 : Int64)) (FP.l2d l1))), .second, .val (.double (FP.ddiv (FP.l2d (0 : Int64)) (FP.l2d l1))), .second] [(.long (0 : Int64))]) _
          refine own_st (fun t_ k_ => XS.lload X24.here hx rfl (hb hby at_194) rfl k_) ?_
          show own_Go p e below T24 (mkF m 196 #[.val (.long p0), .second, .val (.long p1), .second, .val (.long p2), .second, .val (.int p3), .val (.long l1), .second, .val (.int (((p3.toUInt32 >>> ((2 : Int32) &&& 31).toUInt32).toInt32) &&& (3 : Int32))), .val (.long (0 : Int64)), .second, .val (.long r_17), .second, .val (.ref b18), .val (.double (FP.ddiv (FP.l2d (0 : Int64)) (FP.l2d l1))), .second, .val (.double (FP.ddiv (FP.l2d (0 : Int64)) (FP.l2d l1))), .second] [(.long l1), (.long (0 : Int64))]) _
          refine own_st (fun t_ k_ => XS.lcmp X24.here hx rfl (hb hby at_196) rfl k_) ?_
          show own_Go p e below T24 (mkF m 197 #[.val (.long p0), .second, .val (.long p1), .second, .val (.long p2), .second, .val (.int p3), .val (.long l1), .second, .val (.int (((p3.toUInt32 >>> ((2 : Int32) &&& 31).toUInt32).toInt32) &&& (3 : Int32))), .val (.long (0 : Int64)), .second, .val (.long r_17), .second, .val (.ref b18), .val (.double (FP.ddiv (FP.l2d (0 : Int64)) (FP.l2d l1))), .second, .val (.double (FP.ddiv (FP.l2d (0 : Int64)) (FP.l2d l1))), .second] [(.int (lcmpW (0 : Int64) l1))]) _
          by_cases hz2 : (lcmpW (0 : Int64) l1) = (0 : Int32)
          · skip
            refine own_st (fun t_ k_ => XS.ifNo X24.here hx rfl (hb hby at_197) rfl ((if0 _ _).trans (teq hz2).2) k_) ?_
            show own_Go p e below T24 (mkF m 200 #[.val (.long p0), .second, .val (.long p1), .second, .val (.long p2), .second, .val (.int p3), .val (.long l1), .second, .val (.int (((p3.toUInt32 >>> ((2 : Int32) &&& 31).toUInt32).toInt32) &&& (3 : Int32))), .val (.long (0 : Int64)), .second, .val (.long r_17), .second, .val (.ref b18), .val (.double (FP.ddiv (FP.l2d (0 : Int64)) (FP.l2d l1))), .second, .val (.double (FP.ddiv (FP.l2d (0 : Int64)) (FP.l2d l1))), .second] []) _
            refine own_st (fun t_ k_ => XS.dload X24.here hx rfl (hb hby at_200) rfl k_) ?_
            show own_Go p e below T24 (mkF m 202 #[.val (.long p0), .second, .val (.long p1), .second, .val (.long p2), .second, .val (.int p3), .val (.long l1), .second, .val (.int (((p3.toUInt32 >>> ((2 : Int32) &&& 31).toUInt32).toInt32) &&& (3 : Int32))), .val (.long (0 : Int64)), .second, .val (.long r_17), .second, .val (.ref b18), .val (.double (FP.ddiv (FP.l2d (0 : Int64)) (FP.l2d l1))), .second, .val (.double (FP.ddiv (FP.l2d (0 : Int64)) (FP.l2d l1))), .second] [(.double (FP.ddiv (FP.l2d (0 : Int64)) (FP.l2d l1)))]) _
            refine own_st (fun t_ k_ => XS.dconst1 X24.here hx rfl (hb hby at_202) rfl k_) ?_
            show own_Go p e below T24 (mkF m 203 #[.val (.long p0), .second, .val (.long p1), .second, .val (.long p2), .second, .val (.int p3), .val (.long l1), .second, .val (.int (((p3.toUInt32 >>> ((2 : Int32) &&& 31).toUInt32).toInt32) &&& (3 : Int32))), .val (.long (0 : Int64)), .second, .val (.long r_17), .second, .val (.ref b18), .val (.double (FP.ddiv (FP.l2d (0 : Int64)) (FP.l2d l1))), .second, .val (.double (FP.ddiv (FP.l2d (0 : Int64)) (FP.l2d l1))), .second] [(.double FP.dconst1), (.double (FP.ddiv (FP.l2d (0 : Int64)) (FP.l2d l1)))]) _
            refine own_st (fun t_ k_ => XS.dcmpS X24.here hx rfl (hb hby at_203) rfl (own_q_eq1 hz2 htp) k_) ?_
            show own_Go p e below T24 (mkF m 204 #[.val (.long p0), .second, .val (.long p1), .second, .val (.long p2), .second, .val (.int p3), .val (.long l1), .second, .val (.int (((p3.toUInt32 >>> ((2 : Int32) &&& 31).toUInt32).toInt32) &&& (3 : Int32))), .val (.long (0 : Int64)), .second, .val (.long r_17), .second, .val (.ref b18), .val (.double (FP.ddiv (FP.l2d (0 : Int64)) (FP.l2d l1))), .second, .val (.double (FP.ddiv (FP.l2d (0 : Int64)) (FP.l2d l1))), .second] [(.int (0 : Int32))]) _
            refine own_st (fun t_ k_ => XS.ifYes X24.here hx rfl (pc0 := 204) (pc' := 209) rfl (hb hby at_204) rfl (by decide) (by decide) (by decide) k_) ?_
            show own_Go p e below T24 (mkF m 209 #[.val (.long p0), .second, .val (.long p1), .second, .val (.long p2), .second, .val (.int p3), .val (.long l1), .second, .val (.int (((p3.toUInt32 >>> ((2 : Int32) &&& 31).toUInt32).toInt32) &&& (3 : Int32))), .val (.long (0 : Int64)), .second, .val (.long r_17), .second, .val (.ref b18), .val (.double (FP.ddiv (FP.l2d (0 : Int64)) (FP.l2d l1))), .second, .val (.double (FP.ddiv (FP.l2d (0 : Int64)) (FP.l2d l1))), .second] []) _
            refine own_st (fun t_ k_ => XS.iconst X24.here hx rfl (hb hby at_209) k_) ?_
            show own_Go p e below T24 (mkF m 210 #[.val (.long p0), .second, .val (.long p1), .second, .val (.long p2), .second, .val (.int p3), .val (.long l1), .second, .val (.int (((p3.toUInt32 >>> ((2 : Int32) &&& 31).toUInt32).toInt32) &&& (3 : Int32))), .val (.long (0 : Int64)), .second, .val (.long r_17), .second, .val (.ref b18), .val (.double (FP.ddiv (FP.l2d (0 : Int64)) (FP.l2d l1))), .second, .val (.double (FP.ddiv (FP.l2d (0 : Int64)) (FP.l2d l1))), .second] [(.int (1 : Int32))]) _
            obtain ⟨fs, hr, hrun, hended, hW, hsame⟩ := X24.leave (v := some (.int (1 : Int32))) (fun h => by rw [Bd.returns] at h; cases h)
            refine own_fin (retN X24 hx (t := .boolean) Bd.returns (by simp) (hb hby at_210) hr) ⟨hrun, hended, _, _, rfl, ?_, ⟨_, rfl⟩, hW, hsame.mono (by decide) (by decide)⟩
            show Q_rmLaw Z p0 p1 p2 p3 h0 n0 _ T24.heap _
            rw [eH24]
            exact ⟨rfl, N24, K22⟩
          · skip
            refine own_st (fun t_ k_ => XS.ifYes X24.here hx rfl (pc0 := 197) (pc' := 209) rfl (hb hby at_197) rfl ((if0 _ _).trans (feq hz2).2) (by decide) (by decide) k_) ?_
            show own_Go p e below T24 (mkF m 209 #[.val (.long p0), .second, .val (.long p1), .second, .val (.long p2), .second, .val (.int p3), .val (.long l1), .second, .val (.int (((p3.toUInt32 >>> ((2 : Int32) &&& 31).toUInt32).toInt32) &&& (3 : Int32))), .val (.long (0 : Int64)), .second, .val (.long r_17), .second, .val (.ref b18), .val (.double (FP.ddiv (FP.l2d (0 : Int64)) (FP.l2d l1))), .second, .val (.double (FP.ddiv (FP.l2d (0 : Int64)) (FP.l2d l1))), .second] []) _
            refine own_st (fun t_ k_ => XS.iconst X24.here hx rfl (hb hby at_209) k_) ?_
            show own_Go p e below T24 (mkF m 210 #[.val (.long p0), .second, .val (.long p1), .second, .val (.long p2), .second, .val (.int p3), .val (.long l1), .second, .val (.int (((p3.toUInt32 >>> ((2 : Int32) &&& 31).toUInt32).toInt32) &&& (3 : Int32))), .val (.long (0 : Int64)), .second, .val (.long r_17), .second, .val (.ref b18), .val (.double (FP.ddiv (FP.l2d (0 : Int64)) (FP.l2d l1))), .second, .val (.double (FP.ddiv (FP.l2d (0 : Int64)) (FP.l2d l1))), .second] [(.int (1 : Int32))]) _
            obtain ⟨fs, hr, hrun, hended, hW, hsame⟩ := X24.leave (v := some (.int (1 : Int32))) (fun h => by rw [Bd.returns] at h; cases h)
            refine own_fin (retN X24 hx (t := .boolean) Bd.returns (by simp) (hb hby at_210) hr) ⟨hrun, hended, _, _, rfl, ?_, ⟨_, rfl⟩, hW, hsame.mono (by decide) (by decide)⟩
            show Q_rmLaw Z p0 p1 p2 p3 h0 n0 _ T24.heap _
            rw [eH24]
            exact ⟨rfl, N24, K22⟩
        · skip
          refine own_st (fun t_ k_ => XS.dload X24.here hx rfl (hb hby at_163) rfl k_) ?_
          show own_Go p e below T24 (mkF m 165 #[.val (.long p0), .second, .val (.long p1), .second, .val (.long p2), .second, .val (.int p3), .val (.long l1), .second, .val (.int (((p3.toUInt32 >>> ((2 : Int32) &&& 31).toUInt32).toInt32) &&& (3 : Int32))), .val (.long (0 : Int64)), .second, .val (.long r_17), .second, .val (.ref b18), .val (.double (FP.ddiv (FP.l2d (0 : Int64)) (FP.l2d l1))), .second, .val (.double (FP.ddiv (FP.l2d (0 : Int64)) (FP.l2d l1))), .second] [(.double (FP.ddiv (FP.l2d (0 : Int64)) (FP.l2d l1)))]) _
          refine own_st (fun t_ k_ => XS.dconst0 X24.here hx rfl (hb hby at_165) rfl k_) ?_
          show own_Go p e below T24 (mkF m 166 #[.val (.long p0), .second, .val (.long p1), .second, .val (.long p2), .second, .val (.int p3), .val (.long l1), .second, .val (.int (((p3.toUInt32 >>> ((2 : Int32) &&& 31).toUInt32).toInt32) &&& (3 : Int32))), .val (.long (0 : Int64)), .second, .val (.long r_17), .second, .val (.ref b18), .val (.double (FP.ddiv (FP.l2d (0 : Int64)) (FP.l2d l1))), .second, .val (.double (FP.ddiv (FP.l2d (0 : Int64)) (FP.l2d l1))), .second] [(.double FP.dconst0), (.double (FP.ddiv (FP.l2d (0 : Int64)) (FP.l2d l1)))]) _
          refine own_st (fun t_ k_ => XS.dcmpS X24.here hx rfl (hb hby at_166) rfl (own_q_gt0 (own_pos0 hc0 hz1) htp) k_) ?_
          show own_Go p e below T24 (mkF m 167 #[.val (.long p0), .second, .val (.long p1), .second, .val (.long p2), .second, .val (.int p3), .val (.long l1), .second, .val (.int (((p3.toUInt32 >>> ((2 : Int32) &&& 31).toUInt32).toInt32) &&& (3 : Int32))), .val (.long (0 : Int64)), .second, .val (.long r_17), .second, .val (.ref b18), .val (.double (FP.ddiv (FP.l2d (0 : Int64)) (FP.l2d l1))), .second, .val (.double (FP.ddiv (FP.l2d (0 : Int64)) (FP.l2d l1))), .second] [(.int (1 : Int32))]) _
          refine own_st (fun t_ k_ => XS.ifYes X24.here hx rfl (pc0 := 167) (pc' := 174) rfl (hb hby at_167) rfl (by decide) (by decide) (by decide) k_) ?_
          show own_Go p e below T24 (mkF m 174 #[.val (.long p0), .second, .val (.long p1), .second, .val (.long p2), .second, .val (.int p3), .val (.long l1), .second, .val (.int (((p3.toUInt32 >>> ((2 : Int32) &&& 31).toUInt32).toInt32) &&& (3 : Int32))), .val (.long (0 : Int64)), .second, .val (.long r_17), .second, .val (.ref b18), .val (.double (FP.ddiv (FP.l2d (0 : Int64)) (FP.l2d l1))), .second, .val (.double (FP.ddiv (FP.l2d (0 : Int64)) (FP.l2d l1))), .second] []) _
          refine own_st (fun t_ k_ => XS.iconst X24.here hx rfl (hb hby at_174) k_) ?_
          show own_Go p e below T24 (mkF m 175 #[.val (.long p0), .second, .val (.long p1), .second, .val (.long p2), .second, .val (.int p3), .val (.long l1), .second, .val (.int (((p3.toUInt32 >>> ((2 : Int32) &&& 31).toUInt32).toInt32) &&& (3 : Int32))), .val (.long (0 : Int64)), .second, .val (.long r_17), .second, .val (.ref b18), .val (.double (FP.ddiv (FP.l2d (0 : Int64)) (FP.l2d l1))), .second, .val (.double (FP.ddiv (FP.l2d (0 : Int64)) (FP.l2d l1))), .second] [(.int (0 : Int32))]) _
          refine own_st (fun t_ k_ => XS.lload X24.here hx rfl (hb hby at_175) rfl k_) ?_
          show own_Go p e below T24 (mkF m 177 #[.val (.long p0), .second, .val (.long p1), .second, .val (.long p2), .second, .val (.int p3), .val (.long l1), .second, .val (.int (((p3.toUInt32 >>> ((2 : Int32) &&& 31).toUInt32).toInt32) &&& (3 : Int32))), .val (.long (0 : Int64)), .second, .val (.long r_17), .second, .val (.ref b18), .val (.double (FP.ddiv (FP.l2d (0 : Int64)) (FP.l2d l1))), .second, .val (.double (FP.ddiv (FP.l2d (0 : Int64)) (FP.l2d l1))), .second] [(.long (0 : Int64)), (.int (0 : Int32))]) _
          refine own_st (fun t_ k_ => XS.lconst X24.here hx rfl (hb hby at_177) k_) ?_
          show own_Go p e below T24 (mkF m 178 #[.val (.long p0), .second, .val (.long p1), .second, .val (.long p2), .second, .val (.int p3), .val (.long l1), .second, .val (.int (((p3.toUInt32 >>> ((2 : Int32) &&& 31).toUInt32).toInt32) &&& (3 : Int32))), .val (.long (0 : Int64)), .second, .val (.long r_17), .second, .val (.ref b18), .val (.double (FP.ddiv (FP.l2d (0 : Int64)) (FP.l2d l1))), .second, .val (.double (FP.ddiv (FP.l2d (0 : Int64)) (FP.l2d l1))), .second] [(.long (0 : Int64)), (.long (0 : Int64)), (.int (0 : Int32))]) _
          refine own_st (fun t_ k_ => XS.lcmp X24.here hx rfl (hb hby at_178) rfl k_) ?_
          show own_Go p e below T24 (mkF m 179 #[.val (.long p0), .second, .val (.long p1), .second, .val (.long p2), .second, .val (.int p3), .val (.long l1), .second, .val (.int (((p3.toUInt32 >>> ((2 : Int32) &&& 31).toUInt32).toInt32) &&& (3 : Int32))), .val (.long (0 : Int64)), .second, .val (.long r_17), .second, .val (.ref b18), .val (.double (FP.ddiv (FP.l2d (0 : Int64)) (FP.l2d l1))), .second, .val (.double (FP.ddiv (FP.l2d (0 : Int64)) (FP.l2d l1))), .second] [(.int (lcmpW (0 : Int64) (0 : Int64))), (.int (0 : Int32))]) _
          refine own_st (fun t_ k_ => XS.ifYes X24.here hx rfl (pc0 := 179) (pc' := 186) rfl (hb hby at_179) rfl ((if0 _ _).trans (feq hz1).2) (by decide) (by decide) k_) ?_
          show own_Go p e below T24 (mkF m 186 #[.val (.long p0), .second, .val (.long p1), .second, .val (.long p2), .second, .val (.int p3), .val (.long l1), .second, .val (.int (((p3.toUInt32 >>> ((2 : Int32) &&& 31).toUInt32).toInt32) &&& (3 : Int32))), .val (.long (0 : Int64)), .second, .val (.long r_17), .second, .val (.ref b18), .val (.double (FP.ddiv (FP.l2d (0 : Int64)) (FP.l2d l1))), .second, .val (.double (FP.ddiv (FP.l2d (0 : Int64)) (FP.l2d l1))), .second] [(.int (0 : Int32))]) _
          refine own_st (fun t_ k_ => XS.iconst X24.here hx rfl (hb hby at_186) k_) ?_
          show own_Go p e below T24 (mkF m 187 #[.val (.long p0), .second, .val (.long p1), .second, .val (.long p2), .second, .val (.int p3), .val (.long l1), .second, .val (.int (((p3.toUInt32 >>> ((2 : Int32) &&& 31).toUInt32).toInt32) &&& (3 : Int32))), .val (.long (0 : Int64)), .second, .val (.long r_17), .second, .val (.ref b18), .val (.double (FP.ddiv (FP.l2d (0 : Int64)) (FP.l2d l1))), .second, .val (.double (FP.ddiv (FP.l2d (0 : Int64)) (FP.l2d l1))), .second] [(.int (0 : Int32)), (.int (0 : Int32))]) _
          refine own_st (fun t_ k_ => XS.icmpYes X24.here hx rfl (pc0 := 187) (pc' := 192) rfl (hb hby at_187) rfl (by decide) (by decide) (by decide) k_) ?_
          show own_Go p e below T24 (mkF m 192 #[.val (.long p0), .second, .val (.long p1), .second, .val (.long p2), .second, .val (.int p3), .val (.long l1), .second, .val (.int (((p3.toUInt32 >>> ((2 : Int32) &&& 31).toUInt32).toInt32) &&& (3 : Int32))), .val (.long (0 : Int64)), .second, .val (.long r_17), .second, .val (.ref b18), .val (.double (FP.ddiv (FP.l2d (0 : Int64)) (FP.l2d l1))), .second, .val (.double (FP.ddiv (FP.l2d (0 : Int64)) (FP.l2d l1))), .second] []) _
          refine own_st (fun t_ k_ => XS.lload X24.here hx rfl (hb hby at_192) rfl k_) ?_
          show own_Go p e below T24 (mkF m 194 #[.val (.long p0), .second, .val (.long p1), .second, .val (.long p2), .second, .val (.int p3), .val (.long l1), .second, .val (.int (((p3.toUInt32 >>> ((2 : Int32) &&& 31).toUInt32).toInt32) &&& (3 : Int32))), .val (.long (0 : Int64)), .second, .val (.long r_17), .second, .val (.ref b18), .val (.double (FP.ddiv (FP.l2d (0 : Int64)) (FP.l2d l1))), .second, .val (.double (FP.ddiv (FP.l2d (0 : Int64)) (FP.l2d l1))), .second] [(.long (0 : Int64))]) _
          refine own_st (fun t_ k_ => XS.lload X24.here hx rfl (hb hby at_194) rfl k_) ?_
          show own_Go p e below T24 (mkF m 196 #[.val (.long p0), .second, .val (.long p1), .second, .val (.long p2), .second, .val (.int p3), .val (.long l1), .second, .val (.int (((p3.toUInt32 >>> ((2 : Int32) &&& 31).toUInt32).toInt32) &&& (3 : Int32))), .val (.long (0 : Int64)), .second, .val (.long r_17), .second, .val (.ref b18), .val (.double (FP.ddiv (FP.l2d (0 : Int64)) (FP.l2d l1))), .second, .val (.double (FP.ddiv (FP.l2d (0 : Int64)) (FP.l2d l1))), .second] [(.long l1), (.long (0 : Int64))]) _
          refine own_st (fun t_ k_ => XS.lcmp X24.here hx rfl (hb hby at_196) rfl k_) ?_
          show own_Go p e below T24 (mkF m 197 #[.val (.long p0), .second, .val (.long p1), .second, .val (.long p2), .second, .val (.int p3), .val (.long l1), .second, .val (.int (((p3.toUInt32 >>> ((2 : Int32) &&& 31).toUInt32).toInt32) &&& (3 : Int32))), .val (.long (0 : Int64)), .second, .val (.long r_17), .second, .val (.ref b18), .val (.double (FP.ddiv (FP.l2d (0 : Int64)) (FP.l2d l1))), .second, .val (.double (FP.ddiv (FP.l2d (0 : Int64)) (FP.l2d l1))), .second] [(.int (lcmpW (0 : Int64) l1))]) _
          by_cases hz2 : (lcmpW (0 : Int64) l1) = (0 : Int32)
          · skip
            refine own_st (fun t_ k_ => XS.ifNo X24.here hx rfl (hb hby at_197) rfl ((if0 _ _).trans (teq hz2).2) k_) ?_
            show own_Go p e below T24 (mkF m 200 #[.val (.long p0), .second, .val (.long p1), .second, .val (.long p2), .second, .val (.int p3), .val (.long l1), .second, .val (.int (((p3.toUInt32 >>> ((2 : Int32) &&& 31).toUInt32).toInt32) &&& (3 : Int32))), .val (.long (0 : Int64)), .second, .val (.long r_17), .second, .val (.ref b18), .val (.double (FP.ddiv (FP.l2d (0 : Int64)) (FP.l2d l1))), .second, .val (.double (FP.ddiv (FP.l2d (0 : Int64)) (FP.l2d l1))), .second] []) _
            refine own_st (fun t_ k_ => XS.dload X24.here hx rfl (hb hby at_200) rfl k_) ?_
            show own_Go p e below T24 (mkF m 202 #[.val (.long p0), .second, .val (.long p1), .second, .val (.long p2), .second, .val (.int p3), .val (.long l1), .second, .val (.int (((p3.toUInt32 >>> ((2 : Int32) &&& 31).toUInt32).toInt32) &&& (3 : Int32))), .val (.long (0 : Int64)), .second, .val (.long r_17), .second, .val (.ref b18), .val (.double (FP.ddiv (FP.l2d (0 : Int64)) (FP.l2d l1))), .second, .val (.double (FP.ddiv (FP.l2d (0 : Int64)) (FP.l2d l1))), .second] [(.double (FP.ddiv (FP.l2d (0 : Int64)) (FP.l2d l1)))]) _
            refine own_st (fun t_ k_ => XS.dconst1 X24.here hx rfl (hb hby at_202) rfl k_) ?_
            show own_Go p e below T24 (mkF m 203 #[.val (.long p0), .second, .val (.long p1), .second, .val (.long p2), .second, .val (.int p3), .val (.long l1), .second, .val (.int (((p3.toUInt32 >>> ((2 : Int32) &&& 31).toUInt32).toInt32) &&& (3 : Int32))), .val (.long (0 : Int64)), .second, .val (.long r_17), .second, .val (.ref b18), .val (.double (FP.ddiv (FP.l2d (0 : Int64)) (FP.l2d l1))), .second, .val (.double (FP.ddiv (FP.l2d (0 : Int64)) (FP.l2d l1))), .second] [(.double FP.dconst1), (.double (FP.ddiv (FP.l2d (0 : Int64)) (FP.l2d l1)))]) _
            refine own_st (fun t_ k_ => XS.dcmpS X24.here hx rfl (hb hby at_203) rfl (own_q_eq1 hz2 htp) k_) ?_
            show own_Go p e below T24 (mkF m 204 #[.val (.long p0), .second, .val (.long p1), .second, .val (.long p2), .second, .val (.int p3), .val (.long l1), .second, .val (.int (((p3.toUInt32 >>> ((2 : Int32) &&& 31).toUInt32).toInt32) &&& (3 : Int32))), .val (.long (0 : Int64)), .second, .val (.long r_17), .second, .val (.ref b18), .val (.double (FP.ddiv (FP.l2d (0 : Int64)) (FP.l2d l1))), .second, .val (.double (FP.ddiv (FP.l2d (0 : Int64)) (FP.l2d l1))), .second] [(.int (0 : Int32))]) _
            refine own_st (fun t_ k_ => XS.ifYes X24.here hx rfl (pc0 := 204) (pc' := 209) rfl (hb hby at_204) rfl (by decide) (by decide) (by decide) k_) ?_
            show own_Go p e below T24 (mkF m 209 #[.val (.long p0), .second, .val (.long p1), .second, .val (.long p2), .second, .val (.int p3), .val (.long l1), .second, .val (.int (((p3.toUInt32 >>> ((2 : Int32) &&& 31).toUInt32).toInt32) &&& (3 : Int32))), .val (.long (0 : Int64)), .second, .val (.long r_17), .second, .val (.ref b18), .val (.double (FP.ddiv (FP.l2d (0 : Int64)) (FP.l2d l1))), .second, .val (.double (FP.ddiv (FP.l2d (0 : Int64)) (FP.l2d l1))), .second] []) _
            refine own_st (fun t_ k_ => XS.iconst X24.here hx rfl (hb hby at_209) k_) ?_
            show own_Go p e below T24 (mkF m 210 #[.val (.long p0), .second, .val (.long p1), .second, .val (.long p2), .second, .val (.int p3), .val (.long l1), .second, .val (.int (((p3.toUInt32 >>> ((2 : Int32) &&& 31).toUInt32).toInt32) &&& (3 : Int32))), .val (.long (0 : Int64)), .second, .val (.long r_17), .second, .val (.ref b18), .val (.double (FP.ddiv (FP.l2d (0 : Int64)) (FP.l2d l1))), .second, .val (.double (FP.ddiv (FP.l2d (0 : Int64)) (FP.l2d l1))), .second] [(.int (1 : Int32))]) _
            obtain ⟨fs, hr, hrun, hended, hW, hsame⟩ := X24.leave (v := some (.int (1 : Int32))) (fun h => by rw [Bd.returns] at h; cases h)
            refine own_fin (retN X24 hx (t := .boolean) Bd.returns (by simp) (hb hby at_210) hr) ⟨hrun, hended, _, _, rfl, ?_, ⟨_, rfl⟩, hW, hsame.mono (by decide) (by decide)⟩
            show Q_rmLaw Z p0 p1 p2 p3 h0 n0 _ T24.heap _
            rw [eH24]
            exact ⟨rfl, N24, K22⟩
          · skip
            refine own_st (fun t_ k_ => XS.ifYes X24.here hx rfl (pc0 := 197) (pc' := 209) rfl (hb hby at_197) rfl ((if0 _ _).trans (feq hz2).2) (by decide) (by decide) k_) ?_
            show own_Go p e below T24 (mkF m 209 #[.val (.long p0), .second, .val (.long p1), .second, .val (.long p2), .second, .val (.int p3), .val (.long l1), .second, .val (.int (((p3.toUInt32 >>> ((2 : Int32) &&& 31).toUInt32).toInt32) &&& (3 : Int32))), .val (.long (0 : Int64)), .second, .val (.long r_17), .second, .val (.ref b18), .val (.double (FP.ddiv (FP.l2d (0 : Int64)) (FP.l2d l1))), .second, .val (.double (FP.ddiv (FP.l2d (0 : Int64)) (FP.l2d l1))), .second] []) _
            refine own_st (fun t_ k_ => XS.iconst X24.here hx rfl (hb hby at_209) k_) ?_
            show own_Go p e below T24 (mkF m 210 #[.val (.long p0), .second, .val (.long p1), .second, .val (.long p2), .second, .val (.int p3), .val (.long l1), .second, .val (.int (((p3.toUInt32 >>> ((2 : Int32) &&& 31).toUInt32).toInt32) &&& (3 : Int32))), .val (.long (0 : Int64)), .second, .val (.long r_17), .second, .val (.ref b18), .val (.double (FP.ddiv (FP.l2d (0 : Int64)) (FP.l2d l1))), .second, .val (.double (FP.ddiv (FP.l2d (0 : Int64)) (FP.l2d l1))), .second] [(.int (1 : Int32))]) _
            obtain ⟨fs, hr, hrun, hended, hW, hsame⟩ := X24.leave (v := some (.int (1 : Int32))) (fun h => by rw [Bd.returns] at h; cases h)
            refine own_fin (retN X24 hx (t := .boolean) Bd.returns (by simp) (hb hby at_210) hr) ⟨hrun, hended, _, _, rfl, ?_, ⟨_, rfl⟩, hW, hsame.mono (by decide) (by decide)⟩
            show Q_rmLaw Z p0 p1 p2 p3 h0 n0 _ T24.heap _
            rw [eH24]
            exact ⟨rfl, N24, K22⟩
      · skip
        refine own_st (fun t_ k_ => XS.ifYes X0.here hx rfl (pc0 := 41) (pc' := 50) rfl (hb hby at_41) rfl ((if0 _ _).trans (feq hk0).2) (by decide) (by decide) k_) ?_
        show own_Go p e below s₁ (mkF m 50 #[.val (.long p0), .second, .val (.long p1), .second, .val (.long p2), .second, .val (.int p3), .val (.long l1), .second, .val (.int (((p3.toUInt32 >>> ((2 : Int32) &&& 31).toUInt32).toInt32) &&& (3 : Int32))), .unset, .unset, .unset, .unset, .unset, .unset, .unset, .unset, .unset] []) _
        refine own_st (fun t_ k_ => XS.iload X0.here hx rfl (hb hby at_50) rfl k_) ?_
        show own_Go p e below s₁ (mkF m 52 #[.val (.long p0), .second, .val (.long p1), .second, .val (.long p2), .second, .val (.int p3), .val (.long l1), .second, .val (.int (((p3.toUInt32 >>> ((2 : Int32) &&& 31).toUInt32).toInt32) &&& (3 : Int32))), .unset, .unset, .unset, .unset, .unset, .unset, .unset, .unset, .unset] [(.int (((p3.toUInt32 >>> ((2 : Int32) &&& 31).toUInt32).toInt32) &&& (3 : Int32)))]) _
        refine own_st (fun t_ k_ => XS.iconst X0.here hx rfl (hb hby at_52) k_) ?_
        show own_Go p e below s₁ (mkF m 53 #[.val (.long p0), .second, .val (.long p1), .second, .val (.long p2), .second, .val (.int p3), .val (.long l1), .second, .val (.int (((p3.toUInt32 >>> ((2 : Int32) &&& 31).toUInt32).toInt32) &&& (3 : Int32))), .unset, .unset, .unset, .unset, .unset, .unset, .unset, .unset, .unset] [(.int (1 : Int32)), (.int (((p3.toUInt32 >>> ((2 : Int32) &&& 31).toUInt32).toInt32) &&& (3 : Int32)))]) _
        by_cases hk1 : (((p3.toUInt32 >>> ((2 : Int32) &&& 31).toUInt32).toInt32) &&& (3 : Int32)) = (1 : Int32)
        · skip
          refine own_st (fun t_ k_ => XS.icmpNo X0.here hx rfl (hb hby at_53) rfl (teq hk1).2 k_) ?_
          show own_Go p e below s₁ (mkF m 56 #[.val (.long p0), .second, .val (.long p1), .second, .val (.long p2), .second, .val (.int p3), .val (.long l1), .second, .val (.int (((p3.toUInt32 >>> ((2 : Int32) &&& 31).toUInt32).toInt32) &&& (3 : Int32))), .unset, .unset, .unset, .unset, .unset, .unset, .unset, .unset, .unset] []) _
          refine own_st (fun t_ k_ => XS.lload X0.here hx rfl (hb hby at_56) rfl k_) ?_
          show own_Go p e below s₁ (mkF m 58 #[.val (.long p0), .second, .val (.long p1), .second, .val (.long p2), .second, .val (.int p3), .val (.long l1), .second, .val (.int (((p3.toUInt32 >>> ((2 : Int32) &&& 31).toUInt32).toInt32) &&& (3 : Int32))), .unset, .unset, .unset, .unset, .unset, .unset, .unset, .unset, .unset] [(.long l1)]) _
          refine own_st (fun t_ k_ => XS.lstore X0.here hx rfl (hb hby at_58) rfl (l' := #[.val (.long p0), .second, .val (.long p1), .second, .val (.long p2), .second, .val (.int p3), .val (.long l1), .second, .val (.int (((p3.toUInt32 >>> ((2 : Int32) &&& 31).toUInt32).toInt32) &&& (3 : Int32))), .val (.long l1), .second, .unset, .unset, .unset, .unset, .unset, .unset, .unset]) rfl k_) ?_
          show own_Go p e below s₁ (mkF m 60 #[.val (.long p0), .second, .val (.long p1), .second, .val (.long p2), .second, .val (.int p3), .val (.long l1), .second, .val (.int (((p3.toUInt32 >>> ((2 : Int32) &&& 31).toUInt32).toInt32) &&& (3 : Int32))), .val (.long l1), .second, .unset, .unset, .unset, .unset, .unset, .unset, .unset] []) _
          refine own_st (fun t_ k_ => XS.goto X0.here hx rfl (pc0 := 60) (pc' := 74) rfl (hb hby at_60) (by decide) (by decide) k_) ?_
          show own_Go p e below s₁ (mkF m 74 #[.val (.long p0), .second, .val (.long p1), .second, .val (.long p2), .second, .val (.int p3), .val (.long l1), .second, .val (.int (((p3.toUInt32 >>> ((2 : Int32) &&& 31).toUInt32).toInt32) &&& (3 : Int32))), .val (.long l1), .second, .unset, .unset, .unset, .unset, .unset, .unset, .unset] []) _
          have hc0 := ht0
          have hct : l1.toInt ≤ l1.toInt := Int.le_refl _
          refine own_st (fun t_ k_ => XS.lload X0.here hx rfl (hb hby at_74) rfl k_) ?_
          show own_Go p e below s₁ (mkF m 76 #[.val (.long p0), .second, .val (.long p1), .second, .val (.long p2), .second, .val (.int p3), .val (.long l1), .second, .val (.int (((p3.toUInt32 >>> ((2 : Int32) &&& 31).toUInt32).toInt32) &&& (3 : Int32))), .val (.long l1), .second, .unset, .unset, .unset, .unset, .unset, .unset, .unset] [(.long l1)]) _
          refine own_st (fun t_ k_ => XS.lloadN X0.here hx rfl (hb hby at_76) rfl k_) ?_
          show own_Go p e below s₁ (mkF m 77 #[.val (.long p0), .second, .val (.long p1), .second, .val (.long p2), .second, .val (.int p3), .val (.long l1), .second, .val (.int (((p3.toUInt32 >>> ((2 : Int32) &&& 31).toUInt32).toInt32) &&& (3 : Int32))), .val (.long l1), .second, .unset, .unset, .unset, .unset, .unset, .unset, .unset] [(.long p1), (.long l1)]) _
          refine own_st (fun t_ k_ => X0.ldc2Long hx hown (mvT hZ (hw _ (List.mem_of_getElem? (i := 0) rfl))) (g := (mkF m 77 #[.val (.long p0), .second, .val (.long p1), .second, .val (.long p2), .second, .val (.int p3), .val (.long l1), .second, .val (.int (((p3.toUInt32 >>> ((2 : Int32) &&& 31).toUInt32).toInt32) &&& (3 : Int32))), .val (.long l1), .second, .unset, .unset, .unset, .unset, .unset, .unset, .unset] [(.long p1), (.long l1)])) rfl (hb hby at_77) _ k_) ?_
          show own_Go p e below s₁ (mkF m 80 #[.val (.long p0), .second, .val (.long p1), .second, .val (.long p2), .second, .val (.int p3), .val (.long l1), .second, .val (.int (((p3.toUInt32 >>> ((2 : Int32) &&& 31).toUInt32).toInt32) &&& (3 : Int32))), .val (.long l1), .second, .unset, .unset, .unset, .unset, .unset, .unset, .unset] [(.long (9223372036854775807 : Int64)), (.long p1), (.long l1)]) _
          refine own_st (fun t_ k_ => XS.land X0.here hx rfl (hb hby at_80) rfl k_) ?_
          show own_Go p e below s₁ (mkF m 81 #[.val (.long p0), .second, .val (.long p1), .second, .val (.long p2), .second, .val (.int p3), .val (.long l1), .second, .val (.int (((p3.toUInt32 >>> ((2 : Int32) &&& 31).toUInt32).toInt32) &&& (3 : Int32))), .val (.long l1), .second, .unset, .unset, .unset, .unset, .unset, .unset, .unset] [(.long (p1 &&& (9223372036854775807 : Int64))), (.long l1)]) _
          obtain ⟨_, _, ⟨T25, L25, k25, n25⟩, -, X25, ⟨Lc25, hQ25, l25, y25, z25⟩, st25⟩ := Jvm.LawKit.callS X0 hx (y := (⟨"java/lang/Math", "max", "(JJ)J"⟩ : MethodName)) hown (mvT hZ (hw _ (List.mem_of_getElem? (i := 1) rfl))) (mvT hZ (hw _ (List.mem_of_getElem? (i := 2) rfl))) (mvT hZ (hw _ (List.mem_of_getElem? (i := 3) rfl))) (mvT hZ (hw _ (List.mem_of_getElem? (i := 4) rfl))) (by decide) (backOf (W := 0) (rmMax l Z a0 hw [] l1 ((p1 &&& (9223372036854775807 : Int64))) h0 n0 Z0 ) hZ (hw _ (List.mem_of_getElem? (i := 4) rfl)) (hw _ (List.mem_of_getElem? (i := 3) rfl)) (by decide) (by decide)) (g := (mkF m 81 #[.val (.long p0), .second, .val (.long p1), .second, .val (.long p2), .second, .val (.int p3), .val (.long l1), .second, .val (.int (((p3.toUInt32 >>> ((2 : Int32) &&& 31).toUInt32).toInt32) &&& (3 : Int32))), .val (.long l1), .second, .unset, .unset, .unset, .unset, .unset, .unset, .unset] [(.long (p1 &&& (9223372036854775807 : Int64))), (.long l1)])) rfl (by rw [hml]; rfl) (argsL := [(.long l1), (.long (p1 &&& (9223372036854775807 : Int64)))]) (rest := []) (lenOf pd__JJ_J rfl) rfl (by show 2 * 0 + _ ≤ _; exact Nat.le_of_eq rfl) (hb hby at_81) (fun _ _ => ⟨rfl, e0, (by decide : 0 + 0 ≤ _), (by decide : 0 + 0 ≤ _)⟩)
          dsimp only [Pt.U, Pt.locs, Pt.cells, Pt.slots] at X25 l25 y25 z25 st25 hQ25
          subst l25 y25 z25
          obtain ⟨r_25, rfl, Nq25, eH25, q25_0⟩ := hQ25
          have N25 := Fr.app N0 Nq25
          refine own_st st25 ?_
          show own_Go p e below T25 (mkF m 84 #[.val (.long p0), .second, .val (.long p1), .second, .val (.long p2), .second, .val (.int p3), .val (.long l1), .second, .val (.int (((p3.toUInt32 >>> ((2 : Int32) &&& 31).toUInt32).toInt32) &&& (3 : Int32))), .val (.long l1), .second, .unset, .unset, .unset, .unset, .unset, .unset, .unset] [(.long r_25)]) _
          refine own_st (fun t_ k_ => XS.lstore X25.here hx rfl (hb hby at_84) rfl (l' := #[.val (.long p0), .second, .val (.long p1), .second, .val (.long p2), .second, .val (.int p3), .val (.long l1), .second, .val (.int (((p3.toUInt32 >>> ((2 : Int32) &&& 31).toUInt32).toInt32) &&& (3 : Int32))), .val (.long l1), .second, .val (.long r_25), .second, .unset, .unset, .unset, .unset, .unset]) rfl k_) ?_
          show own_Go p e below T25 (mkF m 86 #[.val (.long p0), .second, .val (.long p1), .second, .val (.long p2), .second, .val (.int p3), .val (.long l1), .second, .val (.int (((p3.toUInt32 >>> ((2 : Int32) &&& 31).toUInt32).toInt32) &&& (3 : Int32))), .val (.long l1), .second, .val (.long r_25), .second, .unset, .unset, .unset, .unset, .unset] []) _
          obtain ⟨T26, h26, X26, e26, E26, A26, D26, -, st26⟩ := newO X25 hx hZ hown (hw _ (List.mem_of_getElem? (i := 5) rfl)) (hw _ (List.mem_of_getElem? (i := 6) rfl)) (hw _ (List.mem_of_getElem? (i := 7) rfl)) eH25 (g := (mkF m 86 #[.val (.long p0), .second, .val (.long p1), .second, .val (.long p2), .second, .val (.int p3), .val (.long l1), .second, .val (.int (((p3.toUInt32 >>> ((2 : Int32) &&& 31).toUInt32).toInt32) &&& (3 : Int32))), .val (.long l1), .second, .val (.long r_25), .second, .unset, .unset, .unset, .unset, .unset] [])) rfl (hb hby at_86) (by decide) (by decide)
          obtain ⟨b26, g26⟩ : ∃ z, z = h0.size := ⟨_, rfl⟩
          rw [← g26] at A26 D26 st26
          have G26 : n0 ≤ b26 := Nat.le_trans Z0 (Nat.le_of_eq g26.symm)
          have B26 : h0.size ≤ b26 := Nat.le_trans (Keep.refl h0 []).1 (Nat.le_of_eq g26.symm)
          have K27 : Keep h0 h26 [] := (Keep.refl h0 []).ext E26
          have D26_truePairs : Fld Z h26 b26 "com/example/goldweave/goldweave/engine/evaluation/PairwiseAccuracy" "truePairs" "J" (.long (0 : Int64)) := D26 (Or.inr (hw _ (List.mem_of_getElem? (i := 20) rfl))) (ty := .long) (by decide)
          have D26_linkedPairs : Fld Z h26 b26 "com/example/goldweave/goldweave/engine/evaluation/PairwiseAccuracy" "linkedPairs" "J" (.long (0 : Int64)) := D26 (Or.inr (hw _ (List.mem_of_getElem? (i := 22) rfl))) (ty := .long) (by decide)
          have D26_correctPairs : Fld Z h26 b26 "com/example/goldweave/goldweave/engine/evaluation/PairwiseAccuracy" "correctPairs" "J" (.long (0 : Int64)) := D26 (Or.inr (hw _ (List.mem_of_getElem? (i := 24) rfl))) (ty := .long) (by decide)
          refine own_st st26 ?_
          show own_Go p e below T26 (mkF m 89 #[.val (.long p0), .second, .val (.long p1), .second, .val (.long p2), .second, .val (.int p3), .val (.long l1), .second, .val (.int (((p3.toUInt32 >>> ((2 : Int32) &&& 31).toUInt32).toInt32) &&& (3 : Int32))), .val (.long l1), .second, .val (.long r_25), .second, .unset, .unset, .unset, .unset, .unset] [(.ref b26)]) _
          refine own_st (fun t_ k_ => XS.dup X26.here hx rfl (hb hby at_89) rfl rfl k_) ?_
          show own_Go p e below T26 (mkF m 90 #[.val (.long p0), .second, .val (.long p1), .second, .val (.long p2), .second, .val (.int p3), .val (.long l1), .second, .val (.int (((p3.toUInt32 >>> ((2 : Int32) &&& 31).toUInt32).toInt32) &&& (3 : Int32))), .val (.long l1), .second, .val (.long r_25), .second, .unset, .unset, .unset, .unset, .unset] [(.ref b26), (.ref b26)]) _
          refine own_st (fun t_ k_ => XS.lload X26.here hx rfl (hb hby at_90) rfl k_) ?_
          show own_Go p e below T26 (mkF m 92 #[.val (.long p0), .second, .val (.long p1), .second, .val (.long p2), .second, .val (.int p3), .val (.long l1), .second, .val (.int (((p3.toUInt32 >>> ((2 : Int32) &&& 31).toUInt32).toInt32) &&& (3 : Int32))), .val (.long l1), .second, .val (.long r_25), .second, .unset, .unset, .unset, .unset, .unset] [(.long r_25), (.ref b26), (.ref b26)]) _
          refine own_st (fun t_ k_ => XS.lload X26.here hx rfl (hb hby at_92) rfl k_) ?_
          show own_Go p e below T26 (mkF m 94 #[.val (.long p0), .second, .val (.long p1), .second, .val (.long p2), .second, .val (.int p3), .val (.long l1), .second, .val (.int (((p3.toUInt32 >>> ((2 : Int32) &&& 31).toUInt32).toInt32) &&& (3 : Int32))), .val (.long l1), .second, .val (.long r_25), .second, .unset, .unset, .unset, .unset, .unset] [(.long l1), (.long r_25), (.ref b26), (.ref b26)]) _
          refine own_st (fun t_ k_ => XS.lload X26.here hx rfl (hb hby at_94) rfl k_) ?_
          show own_Go p e below T26 (mkF m 96 #[.val (.long p0), .second, .val (.long p1), .second, .val (.long p2), .second, .val (.int p3), .val (.long l1), .second, .val (.int (((p3.toUInt32 >>> ((2 : Int32) &&& 31).toUInt32).toInt32) &&& (3 : Int32))), .val (.long l1), .second, .val (.long r_25), .second, .unset, .unset, .unset, .unset, .unset] [(.long l1), (.long l1), (.long r_25), (.ref b26), (.ref b26)]) _
          have f28 := (Nat.le_trans Z0 E26.1)
          obtain ⟨_, _, ⟨T29, L29, k29, n29⟩, -, X29, ⟨Lc29, hQ29, l29, y29, z29⟩, st29⟩ := X26.specialBack hx (y := (⟨"com/example/goldweave/goldweave/engine/evaluation/PairwiseAccuracy", "<init>", "(JJJ)V"⟩ : MethodName)) rfl hown (mvT hZ (hw _ (List.mem_of_getElem? (i := 8) rfl))) (mvT hZ (hw _ (List.mem_of_getElem? (i := 9) rfl))) (mvT hZ (hw _ (List.mem_of_getElem? (i := 10) rfl))) (by decide) (backOf (W := 1) (rmPA l Z a0 hw [] b26 r_25 l1 l1 ((.long (0 : Int64))) ((.long (0 : Int64))) ((.long (0 : Int64))) h26 n0 f28 A26 D26_truePairs D26_linkedPairs D26_correctPairs G26 hc0 q25_0.1 hct) hZ (hw _ (List.mem_of_getElem? (i := 10) rfl)) (hw _ (List.mem_of_getElem? (i := 7) rfl)) (by decide) (by decide)) (g := (mkF m 96 #[.val (.long p0), .second, .val (.long p1), .second, .val (.long p2), .second, .val (.int p3), .val (.long l1), .second, .val (.int (((p3.toUInt32 >>> ((2 : Int32) &&& 31).toUInt32).toInt32) &&& (3 : Int32))), .val (.long l1), .second, .val (.long r_25), .second, .unset, .unset, .unset, .unset, .unset] [(.long l1), (.long l1), (.long r_25), (.ref b26), (.ref b26)])) rfl (by rw [hml]; rfl) (Steps.refl _) (a := b26) (argsL := [(.long r_25), (.long l1), (.long l1)]) (rest := [(.ref b26)]) (lenOf pd__JJJ_V rfl) rfl (by show 2 * 0 + _ ≤ _; exact Nat.le_of_eq rfl) (hb hby at_96) (fun _ _ => ⟨rfl, e26, (by decide : 1 + 0 ≤ _), (by decide : 3 + 0 ≤ _)⟩)
          dsimp only [Pt.U, Pt.locs, Pt.cells, Pt.slots] at X29 l29 y29 z29 st29 hQ29
          subst l29 y29 z29
          obtain ⟨rfl, Nq29, Kq29, q29_0, q29_1, q29_2, q29_3⟩ := hQ29
          have N29 := Fr.app N25 Nq29
          have K30 : Keep h0 T29.heap [] := K27.trans Kq29 (allS (Or.inr B26) all0)
          refine own_tr st29 ?_
          show own_Go p e below T29 (mkF m 99 #[.val (.long p0), .second, .val (.long p1), .second, .val (.long p2), .second, .val (.int p3), .val (.long l1), .second, .val (.int (((p3.toUInt32 >>> ((2 : Int32) &&& 31).toUInt32).toInt32) &&& (3 : Int32))), .val (.long l1), .second, .val (.long r_25), .second, .unset, .unset, .unset, .unset, .unset] [(.ref b26)]) _
          refine own_st (fun t_ k_ => XS.astore X29.here hx rfl (hb hby at_99) rfl rfl (l' := #[.val (.long p0), .second, .val (.long p1), .second, .val (.long p2), .second, .val (.int p3), .val (.long l1), .second, .val (.int (((p3.toUInt32 >>> ((2 : Int32) &&& 31).toUInt32).toInt32) &&& (3 : Int32))), .val (.long l1), .second, .val (.long r_25), .second, .val (.ref b26), .unset, .unset, .unset, .unset]) rfl k_) ?_
          show own_Go p e below T29 (mkF m 101 #[.val (.long p0), .second, .val (.long p1), .second, .val (.long p2), .second, .val (.int p3), .val (.long l1), .second, .val (.int (((p3.toUInt32 >>> ((2 : Int32) &&& 31).toUInt32).toInt32) &&& (3 : Int32))), .val (.long l1), .second, .val (.long r_25), .second, .val (.ref b26), .unset, .unset, .unset, .unset] []) _
          refine own_st (fun t_ k_ => XS.aload X29.here hx rfl (hb hby at_101) rfl rfl k_) ?_
          show own_Go p e below T29 (mkF m 103 #[.val (.long p0), .second, .val (.long p1), .second, .val (.long p2), .second, .val (.int p3), .val (.long l1), .second, .val (.int (((p3.toUInt32 >>> ((2 : Int32) &&& 31).toUInt32).toInt32) &&& (3 : Int32))), .val (.long l1), .second, .val (.long r_25), .second, .val (.ref b26), .unset, .unset, .unset, .unset] [(.ref b26)]) _
          have f31 := (Nat.le_trans f28 Kq29.1)
          obtain ⟨cq32, kq32, qa32, qb32, qc32⟩ := isOf hZ rfl q29_0
          obtain ⟨_, _, ⟨T32, L32, k32, n32⟩, -, X32, ⟨Lc32, hQ32, l32, y32, z32⟩, st32⟩ := X29.virtualBack hx (y := (⟨"com/example/goldweave/goldweave/engine/evaluation/PairwiseAccuracy", "precision", "()D"⟩ : MethodName)) (z := (⟨"com/example/goldweave/goldweave/engine/evaluation/PairwiseAccuracy", "precision", "()D"⟩ : MethodName)) hown (mvT hZ (hw _ (List.mem_of_getElem? (i := 25) rfl))) (mvT hZ (hw _ (List.mem_of_getElem? (i := 26) rfl))) (notFace_of_selects (args := #[]) (mvT hZ (hw _ (List.mem_of_getElem? (i := 28) rfl)))) (mvT hZ (hw _ (List.mem_of_getElem? (i := 28) rfl))) (mvT hZ (hw _ (List.mem_of_getElem? (i := 27) rfl))) (by decide) (backOf (W := 0) (rmRe1 l Z a0 hw [] b26 l1 l1 T29.heap n0 f31 q29_3 q29_2 hc0 htp) hZ (hw _ (List.mem_of_getElem? (i := 29) rfl)) (hw _ (List.mem_of_getElem? (i := 7) rfl)) (by decide) (by decide)) qa32 qc32 (g := (mkF m 103 #[.val (.long p0), .second, .val (.long p1), .second, .val (.long p2), .second, .val (.int p3), .val (.long l1), .second, .val (.int (((p3.toUInt32 >>> ((2 : Int32) &&& 31).toUInt32).toInt32) &&& (3 : Int32))), .val (.long l1), .second, .val (.long r_25), .second, .val (.ref b26), .unset, .unset, .unset, .unset] [(.ref b26)])) rfl (by rw [hml]; rfl) (Steps.refl _) (argsL := []) (rest := []) (lenOf pd___D rfl) rfl (by show 2 * 0 + _ ≤ _; exact Nat.le_of_eq rfl) (hb hby at_103) (fun _ _ => ⟨rfl, rfl, (by decide : 1 + 0 ≤ _), (by decide : 3 + 0 ≤ _)⟩)
          dsimp only [Pt.U, Pt.locs, Pt.cells, Pt.slots] at X32 l32 y32 z32 st32 hQ32
          subst l32 y32 z32
          obtain ⟨rfl, Nq32, eH32⟩ := hQ32
          have N32 := Fr.app N29 Nq32
          refine own_tr st32 ?_
          show own_Go p e below T32 (mkF m 106 #[.val (.long p0), .second, .val (.long p1), .second, .val (.long p2), .second, .val (.int p3), .val (.long l1), .second, .val (.int (((p3.toUInt32 >>> ((2 : Int32) &&& 31).toUInt32).toInt32) &&& (3 : Int32))), .val (.long l1), .second, .val (.long r_25), .second, .val (.ref b26), .unset, .unset, .unset, .unset] [(.double (FP.ddiv (FP.l2d l1) (FP.l2d l1)))]) _
          refine own_st (fun t_ k_ => XS.dstore X32.here hx rfl (hb hby at_106) rfl (l' := #[.val (.long p0), .second, .val (.long p1), .second, .val (.long p2), .second, .val (.int p3), .val (.long l1), .second, .val (.int (((p3.toUInt32 >>> ((2 : Int32) &&& 31).toUInt32).toInt32) &&& (3 : Int32))), .val (.long l1), .second, .val (.long r_25), .second, .val (.ref b26), .val (.double (FP.ddiv (FP.l2d l1) (FP.l2d l1))), .second, .unset, .unset]) rfl k_) ?_
          show own_Go p e below T32 (mkF m 108 #[.val (.long p0), .second, .val (.long p1), .second, .val (.long p2), .second, .val (.int p3), .val (.long l1), .second, .val (.int (((p3.toUInt32 >>> ((2 : Int32) &&& 31).toUInt32).toInt32) &&& (3 : Int32))), .val (.long l1), .second, .val (.long r_25), .second, .val (.ref b26), .val (.double (FP.ddiv (FP.l2d l1) (FP.l2d l1))), .second, .unset, .unset] []) _
          refine own_st (fun t_ k_ => XS.lload X32.here hx rfl (hb hby at_108) rfl k_) ?_
          show own_Go p e below T32 (mkF m 110 #[.val (.long p0), .second, .val (.long p1), .second, .val (.long p2), .second, .val (.int p3), .val (.long l1), .second, .val (.int (((p3.toUInt32 >>> ((2 : Int32) &&& 31).toUInt32).toInt32) &&& (3 : Int32))), .val (.long l1), .second, .val (.long r_25), .second, .val (.ref b26), .val (.double (FP.ddiv (FP.l2d l1) (FP.l2d l1))), .second, .unset, .unset] [(.long l1)]) _
          refine own_st (fun t_ k_ => XS.lconst X32.here hx rfl (hb hby at_110) k_) ?_
          show own_Go p e below T32 (mkF m 111 #[.val (.long p0), .second, .val (.long p1), .second, .val (.long p2), .second, .val (.int p3), .val (.long l1), .second, .val (.int (((p3.toUInt32 >>> ((2 : Int32) &&& 31).toUInt32).toInt32) &&& (3 : Int32))), .val (.long l1), .second, .val (.long r_25), .second, .val (.ref b26), .val (.double (FP.ddiv (FP.l2d l1) (FP.l2d l1))), .second, .unset, .unset] [(.long (0 : Int64)), (.long l1)]) _
          refine own_st (fun t_ k_ => XS.lcmp X32.here hx rfl (hb hby at_111) rfl k_) ?_
          show own_Go p e below T32 (mkF m 112 #[.val (.long p0), .second, .val (.long p1), .second, .val (.long p2), .second, .val (.int p3), .val (.long l1), .second, .val (.int (((p3.toUInt32 >>> ((2 : Int32) &&& 31).toUInt32).toInt32) &&& (3 : Int32))), .val (.long l1), .second, .val (.long r_25), .second, .val (.ref b26), .val (.double (FP.ddiv (FP.l2d l1) (FP.l2d l1))), .second, .unset, .unset] [(.int (lcmpW l1 (0 : Int64)))]) _
          refine own_st (fun t_ k_ => XS.ifYes X32.here hx rfl (pc0 := 112) (pc' := 128) rfl (hb hby at_112) rfl ((if0 _ _).trans (feq htn).2) (by decide) (by decide) k_) ?_
          show own_Go p e below T32 (mkF m 128 #[.val (.long p0), .second, .val (.long p1), .second, .val (.long p2), .second, .val (.int p3), .val (.long l1), .second, .val (.int (((p3.toUInt32 >>> ((2 : Int32) &&& 31).toUInt32).toInt32) &&& (3 : Int32))), .val (.long l1), .second, .val (.long r_25), .second, .val (.ref b26), .val (.double (FP.ddiv (FP.l2d l1) (FP.l2d l1))), .second, .unset, .unset] []) _
          refine own_st (fun t_ k_ => XS.lload X32.here hx rfl (hb hby at_128) rfl k_) ?_
          show own_Go p e below T32 (mkF m 130 #[.val (.long p0), .second, .val (.long p1), .second, .val (.long p2), .second, .val (.int p3), .val (.long l1), .second, .val (.int (((p3.toUInt32 >>> ((2 : Int32) &&& 31).toUInt32).toInt32) &&& (3 : Int32))), .val (.long l1), .second, .val (.long r_25), .second, .val (.ref b26), .val (.double (FP.ddiv (FP.l2d l1) (FP.l2d l1))), .second, .unset, .unset] [(.long l1)]) _
          refine own_st (fun t_ k_ => XS.l2dS X32.here hx rfl (hb hby at_130) rfl rfl k_) ?_
          show own_Go p e below T32 (mkF m 131 #[.val (.long p0), .second, .val (.long p1), .second, .val (.long p2), .second, .val (.int p3), .val (.long l1), .second, .val (.int (((p3.toUInt32 >>> ((2 : Int32) &&& 31).toUInt32).toInt32) &&& (3 : Int32))), .val (.long l1), .second, .val (.long r_25), .second, .val (.ref b26), .val (.double (FP.ddiv (FP.l2d l1) (FP.l2d l1))), .second, .unset, .unset] [(.double (FP.l2d l1))]) _
          refine own_st (fun t_ k_ => XS.lload X32.here hx rfl (hb hby at_131) rfl k_) ?_
          show own_Go p e below T32 (mkF m 133 #[.val (.long p0), .second, .val (.long p1), .second, .val (.long p2), .second, .val (.int p3), .val (.long l1), .second, .val (.int (((p3.toUInt32 >>> ((2 : Int32) &&& 31).toUInt32).toInt32) &&& (3 : Int32))), .val (.long l1), .second, .val (.long r_25), .second, .val (.ref b26), .val (.double (FP.ddiv (FP.l2d l1) (FP.l2d l1))), .second, .unset, .unset] [(.long l1), (.double (FP.l2d l1))]) _
          refine own_st (fun t_ k_ => XS.l2dS X32.here hx rfl (hb hby at_133) rfl rfl k_) ?_
          show own_Go p e below T32 (mkF m 134 #[.val (.long p0), .second, .val (.long p1), .second, .val (.long p2), .second, .val (.int p3), .val (.long l1), .second, .val (.int (((p3.toUInt32 >>> ((2 : Int32) &&& 31).toUInt32).toInt32) &&& (3 : Int32))), .val (.long l1), .second, .val (.long r_25), .second, .val (.ref b26), .val (.double (FP.ddiv (FP.l2d l1) (FP.l2d l1))), .second, .unset, .unset] [(.double (FP.l2d l1)), (.double (FP.l2d l1))]) _
          refine own_st (fun t_ k_ => XS.ddivS X32.here hx rfl (hb hby at_134) rfl (own_q_nn hc0 htp) rfl k_) ?_
          show own_Go p e below T32 (mkF m 135 #[.val (.long p0), .second, .val (.long p1), .second, .val (.long p2), .second, .val (.int p3), .val (.long l1), .second, .val (.int (((p3.toUInt32 >>> ((2 : Int32) &&& 31).toUInt32).toInt32) &&& (3 : Int32))), .val (.long l1), .second, .val (.long r_25), .second, .val (.ref b26), .val (.double (FP.ddiv (FP.l2d l1) (FP.l2d l1))), .second, .unset, .unset] [(.double (FP.ddiv (FP.l2d l1) (FP.l2d l1)))]) _
          refine own_st (fun t_ k_ => XS.dstore X32.here hx rfl (hb hby at_135) rfl (l' := #[.val (.long p0), .second, .val (.long p1), .second, .val (.long p2), .second, .val (.int p3), .val (.long l1), .second, .val (.int (((p3.toUInt32 >>> ((2 : Int32) &&& 31).toUInt32).toInt32) &&& (3 : Int32))), .val (.long l1), .second, .val (.long r_25), .second, .val (.ref b26), .val (.double (FP.ddiv (FP.l2d l1) (FP.l2d l1))), .second, .val (.double (FP.ddiv (FP.l2d l1) (FP.l2d l1))), .second]) rfl k_) ?_
          show own_Go p e below T32 (mkF m 137 #[.val (.long p0), .second, .val (.long p1), .second, .val (.long p2), .second, .val (.int p3), .val (.long l1), .second, .val (.int (((p3.toUInt32 >>> ((2 : Int32) &&& 31).toUInt32).toInt32) &&& (3 : Int32))), .val (.long l1), .second, .val (.long r_25), .second, .val (.ref b26), .val (.double (FP.ddiv (FP.l2d l1) (FP.l2d l1))), .second, .val (.double (FP.ddiv (FP.l2d l1) (FP.l2d l1))), .second] []) _
          refine own_st (fun t_ k_ => XS.dload X32.here hx rfl (hb hby at_137) rfl k_) ?_
          show own_Go p e below T32 (mkF m 139 #[.val (.long p0), .second, .val (.long p1), .second, .val (.long p2), .second, .val (.int p3), .val (.long l1), .second, .val (.int (((p3.toUInt32 >>> ((2 : Int32) &&& 31).toUInt32).toInt32) &&& (3 : Int32))), .val (.long l1), .second, .val (.long r_25), .second, .val (.ref b26), .val (.double (FP.ddiv (FP.l2d l1) (FP.l2d l1))), .second, .val (.double (FP.ddiv (FP.l2d l1) (FP.l2d l1))), .second] [(.double (FP.ddiv (FP.l2d l1) (FP.l2d l1)))]) _
          refine own_st (fun t_ k_ => XS.dload X32.here hx rfl (hb hby at_139) rfl k_) ?_
          show own_Go p e below T32 (mkF m 141 #[.val (.long p0), .second, .val (.long p1), .second, .val (.long p2), .second, .val (.int p3), .val (.long l1), .second, .val (.int (((p3.toUInt32 >>> ((2 : Int32) &&& 31).toUInt32).toInt32) &&& (3 : Int32))), .val (.long l1), .second, .val (.long r_25), .second, .val (.ref b26), .val (.double (FP.ddiv (FP.l2d l1) (FP.l2d l1))), .second, .val (.double (FP.ddiv (FP.l2d l1) (FP.l2d l1))), .second] [(.double (FP.ddiv (FP.l2d l1) (FP.l2d l1))), (.double (FP.ddiv (FP.l2d l1) (FP.l2d l1)))]) _
          refine own_st (fun t_ k_ => XS.dcmpS X32.here hx rfl (hb hby at_141) rfl (dcmpV_self (own_q_nn hc0 htp) _) k_) ?_
          show own_Go p e below T32 (mkF m 142 #[.val (.long p0), .second, .val (.long p1), .second, .val (.long p2), .second, .val (.int p3), .val (.long l1), .second, .val (.int (((p3.toUInt32 >>> ((2 : Int32) &&& 31).toUInt32).toInt32) &&& (3 : Int32))), .val (.long l1), .second, .val (.long r_25), .second, .val (.ref b26), .val (.double (FP.ddiv (FP.l2d l1) (FP.l2d l1))), .second, .val (.double (FP.ddiv (FP.l2d l1) (FP.l2d l1))), .second] [(.int (0 : Int32))]) _
          refine own_st (fun t_ k_ => XS.ifYes X32.here hx rfl (pc0 := 142) (pc' := 147) rfl (hb hby at_142) rfl (by decide) (by decide) (by decide) k_) ?_
          show own_Go p e below T32 (mkF m 147 #[.val (.long p0), .second, .val (.long p1), .second, .val (.long p2), .second, .val (.int p3), .val (.long l1), .second, .val (.int (((p3.toUInt32 >>> ((2 : Int32) &&& 31).toUInt32).toInt32) &&& (3 : Int32))), .val (.long l1), .second, .val (.long r_25), .second, .val (.ref b26), .val (.double (FP.ddiv (FP.l2d l1) (FP.l2d l1))), .second, .val (.double (FP.ddiv (FP.l2d l1) (FP.l2d l1))), .second] []) _
          refine own_st (fun t_ k_ => XS.dload X32.here hx rfl (hb hby at_147) rfl k_) ?_
          show own_Go p e below T32 (mkF m 149 #[.val (.long p0), .second, .val (.long p1), .second, .val (.long p2), .second, .val (.int p3), .val (.long l1), .second, .val (.int (((p3.toUInt32 >>> ((2 : Int32) &&& 31).toUInt32).toInt32) &&& (3 : Int32))), .val (.long l1), .second, .val (.long r_25), .second, .val (.ref b26), .val (.double (FP.ddiv (FP.l2d l1) (FP.l2d l1))), .second, .val (.double (FP.ddiv (FP.l2d l1) (FP.l2d l1))), .second] [(.double (FP.ddiv (FP.l2d l1) (FP.l2d l1)))]) _
          refine own_st (fun t_ k_ => XS.dconst0 X32.here hx rfl (hb hby at_149) rfl k_) ?_
          show own_Go p e below T32 (mkF m 150 #[.val (.long p0), .second, .val (.long p1), .second, .val (.long p2), .second, .val (.int p3), .val (.long l1), .second, .val (.int (((p3.toUInt32 >>> ((2 : Int32) &&& 31).toUInt32).toInt32) &&& (3 : Int32))), .val (.long l1), .second, .val (.long r_25), .second, .val (.ref b26), .val (.double (FP.ddiv (FP.l2d l1) (FP.l2d l1))), .second, .val (.double (FP.ddiv (FP.l2d l1) (FP.l2d l1))), .second] [(.double FP.dconst0), (.double (FP.ddiv (FP.l2d l1) (FP.l2d l1)))]) _
          refine own_st (fun t_ k_ => XS.dcmpS X32.here hx rfl (hb hby at_150) rfl rfl k_) ?_
          show own_Go p e below T32 (mkF m 151 #[.val (.long p0), .second, .val (.long p1), .second, .val (.long p2), .second, .val (.int p3), .val (.long l1), .second, .val (.int (((p3.toUInt32 >>> ((2 : Int32) &&& 31).toUInt32).toInt32) &&& (3 : Int32))), .val (.long l1), .second, .val (.long r_25), .second, .val (.ref b26), .val (.double (FP.ddiv (FP.l2d l1) (FP.l2d l1))), .second, .val (.double (FP.ddiv (FP.l2d l1) (FP.l2d l1))), .second] [(.int (cmpValue (FP.dcmp (FP.ddiv (FP.l2d l1) (FP.l2d l1)) FP.dconst0) .l))]) _
          refine own_st (fun t_ k_ => XS.ifNo X32.here hx rfl (hb hby at_151) rfl ((if0 _ _).trans (flt (own_q_ge0 hc0 htp)).1) k_) ?_
          show own_Go p e below T32 (mkF m 154 #[.val (.long p0), .second, .val (.long p1), .second, .val (.long p2), .second, .val (.int p3), .val (.long l1), .second, .val (.int (((p3.toUInt32 >>> ((2 : Int32) &&& 31).toUInt32).toInt32) &&& (3 : Int32))), .val (.long l1), .second, .val (.long r_25), .second, .val (.ref b26), .val (.double (FP.ddiv (FP.l2d l1) (FP.l2d l1))), .second, .val (.double (FP.ddiv (FP.l2d l1) (FP.l2d l1))), .second] []) _
          refine own_st (fun t_ k_ => XS.dload X32.here hx rfl (hb hby at_154) rfl k_) ?_
          show own_Go p e below T32 (mkF m 156 #[.val (.long p0), .second, .val (.long p1), .second, .val (.long p2), .second, .val (.int p3), .val (.long l1), .second, .val (.int (((p3.toUInt32 >>> ((2 : Int32) &&& 31).toUInt32).toInt32) &&& (3 : Int32))), .val (.long l1), .second, .val (.long r_25), .second, .val (.ref b26), .val (.double (FP.ddiv (FP.l2d l1) (FP.l2d l1))), .second, .val (.double (FP.ddiv (FP.l2d l1) (FP.l2d l1))), .second] [(.double (FP.ddiv (FP.l2d l1) (FP.l2d l1)))]) _
          refine own_st (fun t_ k_ => XS.dconst1 X32.here hx rfl (hb hby at_156) rfl k_) ?_
          show own_Go p e below T32 (mkF m 157 #[.val (.long p0), .second, .val (.long p1), .second, .val (.long p2), .second, .val (.int p3), .val (.long l1), .second, .val (.int (((p3.toUInt32 >>> ((2 : Int32) &&& 31).toUInt32).toInt32) &&& (3 : Int32))), .val (.long l1), .second, .val (.long r_25), .second, .val (.ref b26), .val (.double (FP.ddiv (FP.l2d l1) (FP.l2d l1))), .second, .val (.double (FP.ddiv (FP.l2d l1) (FP.l2d l1))), .second] [(.double FP.dconst1), (.double (FP.ddiv (FP.l2d l1) (FP.l2d l1)))]) _
          refine own_st (fun t_ k_ => XS.dcmpS X32.here hx rfl (hb hby at_157) rfl rfl k_) ?_
          show own_Go p e below T32 (mkF m 158 #[.val (.long p0), .second, .val (.long p1), .second, .val (.long p2), .second, .val (.int p3), .val (.long l1), .second, .val (.int (((p3.toUInt32 >>> ((2 : Int32) &&& 31).toUInt32).toInt32) &&& (3 : Int32))), .val (.long l1), .second, .val (.long r_25), .second, .val (.ref b26), .val (.double (FP.ddiv (FP.l2d l1) (FP.l2d l1))), .second, .val (.double (FP.ddiv (FP.l2d l1) (FP.l2d l1))), .second] [(.int (cmpValue (FP.dcmp (FP.ddiv (FP.l2d l1) (FP.l2d l1)) FP.dconst1) .g))]) _
          refine own_st (fun t_ k_ => XS.ifYes X32.here hx rfl (pc0 := 158) (pc' := 163) rfl (hb hby at_158) rfl ((if0 _ _).trans (flt (own_q_le1 hc0 hct htp)).2.2.2) (by decide) (by decide) k_) ?_
          show own_Go p e below T32 (mkF m 163 #[.val (.long p0), .second, .val (.long p1), .second, .val (.long p2), .second, .val (.int p3), .val (.long l1), .second, .val (.int (((p3.toUInt32 >>> ((2 : Int32) &&& 31).toUInt32).toInt32) &&& (3 : Int32))), .val (.long l1), .second, .val (.long r_25), .second, .val (.ref b26), .val (.double (FP.ddiv (FP.l2d l1) (FP.l2d l1))), .second, .val (.double (FP.ddiv (FP.l2d l1) (FP.l2d l1))), .second] []) _
          by_cases hz1 : lcmpW l1 (0 : Int64) = (0 : Int32)
          · skip
            refine own_st (fun t_ k_ => XS.dload X32.here hx rfl (hb hby at_163) rfl k_) ?_
            show own_Go p e below T32 (mkF m 165 #[.val (.long p0), .second, .val (.long p1), .second, .val (.long p2), .second, .val (.int p3), .val (.long l1), .second, .val (.int (((p3.toUInt32 >>> ((2 : Int32) &&& 31).toUInt32).toInt32) &&& (3 : Int32))), .val (.long l1), .second, .val (.long r_25), .second, .val (.ref b26), .val (.double (FP.ddiv (FP.l2d l1) (FP.l2d l1))), .second, .val (.double (FP.ddiv (FP.l2d l1) (FP.l2d l1))), .second] [(.double (FP.ddiv (FP.l2d l1) (FP.l2d l1)))]) _
            refine own_st (fun t_ k_ => XS.dconst0 X32.here hx rfl (hb hby at_165) rfl k_) ?_
            show own_Go p e below T32 (mkF m 166 #[.val (.long p0), .second, .val (.long p1), .second, .val (.long p2), .second, .val (.int p3), .val (.long l1), .second, .val (.int (((p3.toUInt32 >>> ((2 : Int32) &&& 31).toUInt32).toInt32) &&& (3 : Int32))), .val (.long l1), .second, .val (.long r_25), .second, .val (.ref b26), .val (.double (FP.ddiv (FP.l2d l1) (FP.l2d l1))), .second, .val (.double (FP.ddiv (FP.l2d l1) (FP.l2d l1))), .second] [(.double FP.dconst0), (.double (FP.ddiv (FP.l2d l1) (FP.l2d l1)))]) _
            refine own_st (fun t_ k_ => XS.dcmpS X32.here hx rfl (hb hby at_166) rfl (own_q_eq0 hz1 htp) k_) ?_
            show own_Go p e below T32 (mkF m 167 #[.val (.long p0), .second, .val (.long p1), .second, .val (.long p2), .second, .val (.int p3), .val (.long l1), .second, .val (.int (((p3.toUInt32 >>> ((2 : Int32) &&& 31).toUInt32).toInt32) &&& (3 : Int32))), .val (.long l1), .second, .val (.long r_25), .second, .val (.ref b26), .val (.double (FP.ddiv (FP.l2d l1) (FP.l2d l1))), .second, .val (.double (FP.ddiv (FP.l2d l1) (FP.l2d l1))), .second] [(.int (0 : Int32))]) _
            refine own_st (fun t_ k_ => XS.ifNo X32.here hx rfl (hb hby at_167) rfl (by decide) k_) ?_
            show own_Go p e below T32 (mkF m 170 #[.val (.long p0), .second, .val (.long p1), .second, .val (.long p2), .second, .val (.int p3), .val (.long l1), .second, .val (.int (((p3.toUInt32 >>> ((2 : Int32) &&& 31).toUInt32).toInt32) &&& (3 : Int32))), .val (.long l1), .second, .val (.long r_25), .second, .val (.ref b26), .val (.double (FP.ddiv (FP.l2d l1) (FP.l2d l1))), .second, .val (.double (FP.ddiv (FP.l2d l1) (FP.l2d l1))), .second] []) _
            refine own_st (fun t_ k_ => XS.iconst X32.here hx rfl (hb hby at_170) k_) ?_
            show own_Go p e below T32 (mkF m 171 #[.val (.long p0), .second, .val (.long p1), .second, .val (.long p2), .second, .val (.int p3), .val (.long l1), .second, .val (.int (((p3.toUInt32 >>> ((2 : Int32) &&& 31).toUInt32).toInt32) &&& (3 : Int32))), .val (.long l1), .second, .val (.long r_25), .second, .val (.ref b26), .val (.double (FP.ddiv (FP.l2d l1) (FP.l2d l1))), .second, .val (.double (FP.ddiv (FP.l2d l1) (FP.l2d l1))), .second] [(.int (1 : Int32))]) _
            refine own_st (fun t_ k_ => XS.goto X32.here hx rfl (pc0 := 171) (pc' := 175) rfl (hb hby at_171) (by decide) (by decide) k_) ?_
            show own_Go p e below T32 (mkF m 175 #[.val (.long p0), .second, .val (.long p1), .second, .val (.long p2), .second, .val (.int p3), .val (.long l1), .second, .val (.int (((p3.toUInt32 >>> ((2 : Int32) &&& 31).toUInt32).toInt32) &&& (3 : Int32))), .val (.long l1), .second, .val (.long r_25), .second, .val (.ref b26), .val (.double (FP.ddiv (FP.l2d l1) (FP.l2d l1))), .second, .val (.double (FP.ddiv (FP.l2d l1) (FP.l2d l1))), .second] [(.int (1 : Int32))]) _
            refine own_st (fun t_ k_ => XS.lload X32.here hx rfl (hb hby at_175) rfl k_) ?_
            show own_Go p e below T32 (mkF m 177 #[.val (.long p0), .second, .val (.long p1), .second, .val (.long p2), .second, .val (.int p3), .val (.long l1), .second, .val (.int (((p3.toUInt32 >>> ((2 : Int32) &&& 31).toUInt32).toInt32) &&& (3 : Int32))), .val (.long l1), .second, .val (.long r_25), .second, .val (.ref b26), .val (.double (FP.ddiv (FP.l2d l1) (FP.l2d l1))), .second, .val (.double (FP.ddiv (FP.l2d l1) (FP.l2d l1))), .second] [(.long l1), (.int (1 : Int32))]) _
            refine own_st (fun t_ k_ => XS.lconst X32.here hx rfl (hb hby at_177) k_) ?_
            show own_Go p e below T32 (mkF m 178 #[.val (.long p0), .second, .val (.long p1), .second, .val (.long p2), .second, .val (.int p3), .val (.long l1), .second, .val (.int (((p3.toUInt32 >>> ((2 : Int32) &&& 31).toUInt32).toInt32) &&& (3 : Int32))), .val (.long l1), .second, .val (.long r_25), .second, .val (.ref b26), .val (.double (FP.ddiv (FP.l2d l1) (FP.l2d l1))), .second, .val (.double (FP.ddiv (FP.l2d l1) (FP.l2d l1))), .second] [(.long (0 : Int64)), (.long l1), (.int (1 : Int32))]) _
            refine own_st (fun t_ k_ => XS.lcmp X32.here hx rfl (hb hby at_178) rfl k_) ?_
            show own_Go p e below T32 (mkF m 179 #[.val (.long p0), .second, .val (.long p1), .second, .val (.long p2), .second, .val (.int p3), .val (.long l1), .second, .val (.int (((p3.toUInt32 >>> ((2 : Int32) &&& 31).toUInt32).toInt32) &&& (3 : Int32))), .val (.long l1), .second, .val (.long r_25), .second, .val (.ref b26), .val (.double (FP.ddiv (FP.l2d l1) (FP.l2d l1))), .second, .val (.double (FP.ddiv (FP.l2d l1) (FP.l2d l1))), .second] [(.int (lcmpW l1 (0 : Int64))), (.int (1 : Int32))]) _
            refine own_st (fun t_ k_ => XS.ifNo X32.here hx rfl (hb hby at_179) rfl ((if0 _ _).trans (teq hz1).2) k_) ?_
            show own_Go p e below T32 (mkF m 182 #[.val (.long p0), .second, .val (.long p1), .second, .val (.long p2), .second, .val (.int p3), .val (.long l1), .second, .val (.int (((p3.toUInt32 >>> ((2 : Int32) &&& 31).toUInt32).toInt32) &&& (3 : Int32))), .val (.long l1), .second, .val (.long r_25), .second, .val (.ref b26), .val (.double (FP.ddiv (FP.l2d l1) (FP.l2d l1))), .second, .val (.double (FP.ddiv (FP.l2d l1) (FP.l2d l1))), .second] [(.int (1 : Int32))]) _
            refine own_st (fun t_ k_ => XS.iconst X32.here hx rfl (hb hby at_182) k_) ?_
            show own_Go p e below T32 (mkF m 183 #[.val (.long p0), .second, .val (.long p1), .second, .val (.long p2), .second, .val (.int p3), .val (.long l1), .second, .val (.int (((p3.toUInt32 >>> ((2 : Int32) &&& 31).toUInt32).toInt32) &&& (3 : Int32))), .val (.long l1), .second, .val (.long r_25), .second, .val (.ref b26), .val (.double (FP.ddiv (FP.l2d l1) (FP.l2d l1))), .second, .val (.double (FP.ddiv (FP.l2d l1) (FP.l2d l1))), .second] [(.int (1 : Int32)), (.int (1 : Int32))]) _
            refine own_st (fun t_ k_ => XS.goto X32.here hx rfl (pc0 := 183) (pc' := 187) rfl (hb hby at_183) (by decide) (by decide) k_) ?_
            show own_Go p e below T32 (mkF m 187 #[.val (.long p0), .second, .val (.long p1), .second, .val (.long p2), .second, .val (.int p3), .val (.long l1), .second, .val (.int (((p3.toUInt32 >>> ((2 : Int32) &&& 31).toUInt32).toInt32) &&& (3 : Int32))), .val (.long l1), .second, .val (.long r_25), .second, .val (.ref b26), .val (.double (FP.ddiv (FP.l2d l1) (FP.l2d l1))), .second, .val (.double (FP.ddiv (FP.l2d l1) (FP.l2d l1))), .second] [(.int (1 : Int32)), (.int (1 : Int32))]) _
            refine own_st (fun t_ k_ => XS.icmpYes X32.here hx rfl (pc0 := 187) (pc' := 192) rfl (hb hby at_187) rfl (by decide) (by decide) (by decide) k_) ?_
            show own_Go p e below T32 (mkF m 192 #[.val (.long p0), .second, .val (.long p1), .second, .val (.long p2), .second, .val (.int p3), .val (.long l1), .second, .val (.int (((p3.toUInt32 >>> ((2 : Int32) &&& 31).toUInt32).toInt32) &&& (3 : Int32))), .val (.long l1), .second, .val (.long r_25), .second, .val (.ref b26), .val (.double (FP.ddiv (FP.l2d l1) (FP.l2d l1))), .second, .val (.double (FP.ddiv (FP.l2d l1) (FP.l2d l1))), .second] []) _
            refine own_st (fun t_ k_ => XS.lload X32.here hx rfl (hb hby at_192) rfl k_) ?_
            show own_Go p e below T32 (mkF m 194 #[.val (.long p0), .second, .val (.long p1), .second, .val (.long p2), .second, .val (.int p3), .val (.long l1), .second, .val (.int (((p3.toUInt32 >>> ((2 : Int32) &&& 31).toUInt32).toInt32) &&& (3 : Int32))), .val (.long l1), .second, .val (.long r_25), .second, .val (.ref b26), .val (.double (FP.ddiv (FP.l2d l1) (FP.l2d l1))), .second, .val (.double (FP.ddiv (FP.l2d l1) (FP.l2d l1))), .second] [(.long l1)]) _
            refine own_st (fun t_ k_ => XS.lload X32.here hx rfl (hb hby at_194) rfl k_) ?_
            show own_Go p e below T32 (mkF m 196 #[.val (.long p0), .second, .val (.long p1), .second, .val (.long p2), .second, .val (.int p3), .val (.long l1), .second, .val (.int (((p3.toUInt32 >>> ((2 : Int32) &&& 31).toUInt32).toInt32) &&& (3 : Int32))), .val (.long l1), .second, .val (.long r_25), .second, .val (.ref b26), .val (.double (FP.ddiv (FP.l2d l1) (FP.l2d l1))), .second, .val (.double (FP.ddiv (FP.l2d l1) (FP.l2d l1))), .second] [(.long l1), (.long l1)]) _
            refine own_st (fun t_ k_ => XS.lcmp X32.here hx rfl (hb hby at_196) rfl k_) ?_
            show own_Go p e below T32 (mkF m 197 #[.val (.long p0), .second, .val (.long p1), .second, .val (.long p2), .second, .val (.int p3), .val (.long l1), .second, .val (.int (((p3.toUInt32 >>> ((2 : Int32) &&& 31).toUInt32).toInt32) &&& (3 : Int32))), .val (.long l1), .second, .val (.long r_25), .second, .val (.ref b26), .val (.double (FP.ddiv (FP.l2d l1) (FP.l2d l1))), .second, .val (.double (FP.ddiv (FP.l2d l1) (FP.l2d l1))), .second] [(.int (lcmpW l1 l1))]) _
            by_cases hz2 : (lcmpW l1 l1) = (0 : Int32)
            · skip
              refine own_st (fun t_ k_ => XS.ifNo X32.here hx rfl (hb hby at_197) rfl ((if0 _ _).trans (teq hz2).2) k_) ?_
              show own_Go p e below T32 (mkF m 200 #[.val (.long p0), .second, .val (.long p1), .second, .val (.long p2), .second, .val (.int p3), .val (.long l1), .second, .val (.int (((p3.toUInt32 >>> ((2 : Int32) &&& 31).toUInt32).toInt32) &&& (3 : Int32))), .val (.long l1), .second, .val (.long r_25), .second, .val (.ref b26), .val (.double (FP.ddiv (FP.l2d l1) (FP.l2d l1))), .second, .val (.double (FP.ddiv (FP.l2d l1) (FP.l2d l1))), .second] []) _
              refine own_st (fun t_ k_ => XS.dload X32.here hx rfl (hb hby at_200) rfl k_) ?_
              show own_Go p e below T32 (mkF m 202 #[.val (.long p0), .second, .val (.long p1), .second, .val (.long p2), .second, .val (.int p3), .val (.long l1), .second, .val (.int (((p3.toUInt32 >>> ((2 : Int32) &&& 31).toUInt32).toInt32) &&& (3 : Int32))), .val (.long l1), .second, .val (.long r_25), .second, .val (.ref b26), .val (.double (FP.ddiv (FP.l2d l1) (FP.l2d l1))), .second, .val (.double (FP.ddiv (FP.l2d l1) (FP.l2d l1))), .second] [(.double (FP.ddiv (FP.l2d l1) (FP.l2d l1)))]) _
              refine own_st (fun t_ k_ => XS.dconst1 X32.here hx rfl (hb hby at_202) rfl k_) ?_
              show own_Go p e below T32 (mkF m 203 #[.val (.long p0), .second, .val (.long p1), .second, .val (.long p2), .second, .val (.int p3), .val (.long l1), .second, .val (.int (((p3.toUInt32 >>> ((2 : Int32) &&& 31).toUInt32).toInt32) &&& (3 : Int32))), .val (.long l1), .second, .val (.long r_25), .second, .val (.ref b26), .val (.double (FP.ddiv (FP.l2d l1) (FP.l2d l1))), .second, .val (.double (FP.ddiv (FP.l2d l1) (FP.l2d l1))), .second] [(.double FP.dconst1), (.double (FP.ddiv (FP.l2d l1) (FP.l2d l1)))]) _
              refine own_st (fun t_ k_ => XS.dcmpS X32.here hx rfl (hb hby at_203) rfl (own_q_eq1 hz2 htp) k_) ?_
              show own_Go p e below T32 (mkF m 204 #[.val (.long p0), .second, .val (.long p1), .second, .val (.long p2), .second, .val (.int p3), .val (.long l1), .second, .val (.int (((p3.toUInt32 >>> ((2 : Int32) &&& 31).toUInt32).toInt32) &&& (3 : Int32))), .val (.long l1), .second, .val (.long r_25), .second, .val (.ref b26), .val (.double (FP.ddiv (FP.l2d l1) (FP.l2d l1))), .second, .val (.double (FP.ddiv (FP.l2d l1) (FP.l2d l1))), .second] [(.int (0 : Int32))]) _
              refine own_st (fun t_ k_ => XS.ifYes X32.here hx rfl (pc0 := 204) (pc' := 209) rfl (hb hby at_204) rfl (by decide) (by decide) (by decide) k_) ?_
              show own_Go p e below T32 (mkF m 209 #[.val (.long p0), .second, .val (.long p1), .second, .val (.long p2), .second, .val (.int p3), .val (.long l1), .second, .val (.int (((p3.toUInt32 >>> ((2 : Int32) &&& 31).toUInt32).toInt32) &&& (3 : Int32))), .val (.long l1), .second, .val (.long r_25), .second, .val (.ref b26), .val (.double (FP.ddiv (FP.l2d l1) (FP.l2d l1))), .second, .val (.double (FP.ddiv (FP.l2d l1) (FP.l2d l1))), .second] []) _
              refine own_st (fun t_ k_ => XS.iconst X32.here hx rfl (hb hby at_209) k_) ?_
              show own_Go p e below T32 (mkF m 210 #[.val (.long p0), .second, .val (.long p1), .second, .val (.long p2), .second, .val (.int p3), .val (.long l1), .second, .val (.int (((p3.toUInt32 >>> ((2 : Int32) &&& 31).toUInt32).toInt32) &&& (3 : Int32))), .val (.long l1), .second, .val (.long r_25), .second, .val (.ref b26), .val (.double (FP.ddiv (FP.l2d l1) (FP.l2d l1))), .second, .val (.double (FP.ddiv (FP.l2d l1) (FP.l2d l1))), .second] [(.int (1 : Int32))]) _
              obtain ⟨fs, hr, hrun, hended, hW, hsame⟩ := X32.leave (v := some (.int (1 : Int32))) (fun h => by rw [Bd.returns] at h; cases h)
              refine own_fin (retN X32 hx (t := .boolean) Bd.returns (by simp) (hb hby at_210) hr) ⟨hrun, hended, _, _, rfl, ?_, ⟨_, rfl⟩, hW, hsame.mono (by decide) (by decide)⟩
              show Q_rmLaw Z p0 p1 p2 p3 h0 n0 _ T32.heap _
              rw [eH32]
              exact ⟨rfl, N32, K30⟩
            · skip
              refine own_st (fun t_ k_ => XS.ifYes X32.here hx rfl (pc0 := 197) (pc' := 209) rfl (hb hby at_197) rfl ((if0 _ _).trans (feq hz2).2) (by decide) (by decide) k_) ?_
              show own_Go p e below T32 (mkF m 209 #[.val (.long p0), .second, .val (.long p1), .second, .val (.long p2), .second, .val (.int p3), .val (.long l1), .second, .val (.int (((p3.toUInt32 >>> ((2 : Int32) &&& 31).toUInt32).toInt32) &&& (3 : Int32))), .val (.long l1), .second, .val (.long r_25), .second, .val (.ref b26), .val (.double (FP.ddiv (FP.l2d l1) (FP.l2d l1))), .second, .val (.double (FP.ddiv (FP.l2d l1) (FP.l2d l1))), .second] []) _
              refine own_st (fun t_ k_ => XS.iconst X32.here hx rfl (hb hby at_209) k_) ?_
              show own_Go p e below T32 (mkF m 210 #[.val (.long p0), .second, .val (.long p1), .second, .val (.long p2), .second, .val (.int p3), .val (.long l1), .second, .val (.int (((p3.toUInt32 >>> ((2 : Int32) &&& 31).toUInt32).toInt32) &&& (3 : Int32))), .val (.long l1), .second, .val (.long r_25), .second, .val (.ref b26), .val (.double (FP.ddiv (FP.l2d l1) (FP.l2d l1))), .second, .val (.double (FP.ddiv (FP.l2d l1) (FP.l2d l1))), .second] [(.int (1 : Int32))]) _
              obtain ⟨fs, hr, hrun, hended, hW, hsame⟩ := X32.leave (v := some (.int (1 : Int32))) (fun h => by rw [Bd.returns] at h; cases h)
              refine own_fin (retN X32 hx (t := .boolean) Bd.returns (by simp) (hb hby at_210) hr) ⟨hrun, hended, _, _, rfl, ?_, ⟨_, rfl⟩, hW, hsame.mono (by decide) (by decide)⟩
              show Q_rmLaw Z p0 p1 p2 p3 h0 n0 _ T32.heap _
              rw [eH32]
              exact ⟨rfl, N32, K30⟩
          · skip
            refine own_st (fun t_ k_ => XS.dload X32.here hx rfl (hb hby at_163) rfl k_) ?_
            show own_Go p e below T32 (mkF m 165 #[.val (.long p0), .second, .val (.long p1), .second, .val (.long p2), .second, .val (.int p3), .val (.long l1), .second, .val (.int (((p3.toUInt32 >>> ((2 : Int32) &&& 31).toUInt32).toInt32) &&& (3 : Int32))), .val (.long l1), .second, .val (.long r_25), .second, .val (.ref b26), .val (.double (FP.ddiv (FP.l2d l1) (FP.l2d l1))), .second, .val (.double (FP.ddiv (FP.l2d l1) (FP.l2d l1))), .second] [(.double (FP.ddiv (FP.l2d l1) (FP.l2d l1)))]) _
            refine own_st (fun t_ k_ => XS.dconst0 X32.here hx rfl (hb hby at_165) rfl k_) ?_
            show own_Go p e below T32 (mkF m 166 #[.val (.long p0), .second, .val (.long p1), .second, .val (.long p2), .second, .val (.int p3), .val (.long l1), .second, .val (.int (((p3.toUInt32 >>> ((2 : Int32) &&& 31).toUInt32).toInt32) &&& (3 : Int32))), .val (.long l1), .second, .val (.long r_25), .second, .val (.ref b26), .val (.double (FP.ddiv (FP.l2d l1) (FP.l2d l1))), .second, .val (.double (FP.ddiv (FP.l2d l1) (FP.l2d l1))), .second] [(.double FP.dconst0), (.double (FP.ddiv (FP.l2d l1) (FP.l2d l1)))]) _
            refine own_st (fun t_ k_ => XS.dcmpS X32.here hx rfl (hb hby at_166) rfl (own_q_gt0 (own_pos0 hc0 hz1) htp) k_) ?_
            show own_Go p e below T32 (mkF m 167 #[.val (.long p0), .second, .val (.long p1), .second, .val (.long p2), .second, .val (.int p3), .val (.long l1), .second, .val (.int (((p3.toUInt32 >>> ((2 : Int32) &&& 31).toUInt32).toInt32) &&& (3 : Int32))), .val (.long l1), .second, .val (.long r_25), .second, .val (.ref b26), .val (.double (FP.ddiv (FP.l2d l1) (FP.l2d l1))), .second, .val (.double (FP.ddiv (FP.l2d l1) (FP.l2d l1))), .second] [(.int (1 : Int32))]) _
            refine own_st (fun t_ k_ => XS.ifYes X32.here hx rfl (pc0 := 167) (pc' := 174) rfl (hb hby at_167) rfl (by decide) (by decide) (by decide) k_) ?_
            show own_Go p e below T32 (mkF m 174 #[.val (.long p0), .second, .val (.long p1), .second, .val (.long p2), .second, .val (.int p3), .val (.long l1), .second, .val (.int (((p3.toUInt32 >>> ((2 : Int32) &&& 31).toUInt32).toInt32) &&& (3 : Int32))), .val (.long l1), .second, .val (.long r_25), .second, .val (.ref b26), .val (.double (FP.ddiv (FP.l2d l1) (FP.l2d l1))), .second, .val (.double (FP.ddiv (FP.l2d l1) (FP.l2d l1))), .second] []) _
            refine own_st (fun t_ k_ => XS.iconst X32.here hx rfl (hb hby at_174) k_) ?_
            show own_Go p e below T32 (mkF m 175 #[.val (.long p0), .second, .val (.long p1), .second, .val (.long p2), .second, .val (.int p3), .val (.long l1), .second, .val (.int (((p3.toUInt32 >>> ((2 : Int32) &&& 31).toUInt32).toInt32) &&& (3 : Int32))), .val (.long l1), .second, .val (.long r_25), .second, .val (.ref b26), .val (.double (FP.ddiv (FP.l2d l1) (FP.l2d l1))), .second, .val (.double (FP.ddiv (FP.l2d l1) (FP.l2d l1))), .second] [(.int (0 : Int32))]) _
            refine own_st (fun t_ k_ => XS.lload X32.here hx rfl (hb hby at_175) rfl k_) ?_
            show own_Go p e below T32 (mkF m 177 #[.val (.long p0), .second, .val (.long p1), .second, .val (.long p2), .second, .val (.int p3), .val (.long l1), .second, .val (.int (((p3.toUInt32 >>> ((2 : Int32) &&& 31).toUInt32).toInt32) &&& (3 : Int32))), .val (.long l1), .second, .val (.long r_25), .second, .val (.ref b26), .val (.double (FP.ddiv (FP.l2d l1) (FP.l2d l1))), .second, .val (.double (FP.ddiv (FP.l2d l1) (FP.l2d l1))), .second] [(.long l1), (.int (0 : Int32))]) _
            refine own_st (fun t_ k_ => XS.lconst X32.here hx rfl (hb hby at_177) k_) ?_
            show own_Go p e below T32 (mkF m 178 #[.val (.long p0), .second, .val (.long p1), .second, .val (.long p2), .second, .val (.int p3), .val (.long l1), .second, .val (.int (((p3.toUInt32 >>> ((2 : Int32) &&& 31).toUInt32).toInt32) &&& (3 : Int32))), .val (.long l1), .second, .val (.long r_25), .second, .val (.ref b26), .val (.double (FP.ddiv (FP.l2d l1) (FP.l2d l1))), .second, .val (.double (FP.ddiv (FP.l2d l1) (FP.l2d l1))), .second] [(.long (0 : Int64)), (.long l1), (.int (0 : Int32))]) _
            refine own_st (fun t_ k_ => XS.lcmp X32.here hx rfl (hb hby at_178) rfl k_) ?_
            show own_Go p e below T32 (mkF m 179 #[.val (.long p0), .second, .val (.long p1), .second, .val (.long p2), .second, .val (.int p3), .val (.long l1), .second, .val (.int (((p3.toUInt32 >>> ((2 : Int32) &&& 31).toUInt32).toInt32) &&& (3 : Int32))), .val (.long l1), .second, .val (.long r_25), .second, .val (.ref b26), .val (.double (FP.ddiv (FP.l2d l1) (FP.l2d l1))), .second, .val (.double (FP.ddiv (FP.l2d l1) (FP.l2d l1))), .second] [(.int (lcmpW l1 (0 : Int64))), (.int (0 : Int32))]) _
            refine own_st (fun t_ k_ => XS.ifYes X32.here hx rfl (pc0 := 179) (pc' := 186) rfl (hb hby at_179) rfl ((if0 _ _).trans (feq hz1).2) (by decide) (by decide) k_) ?_
            show own_Go p e below T32 (mkF m 186 #[.val (.long p0), .second, .val (.long p1), .second, .val (.long p2), .second, .val (.int p3), .val (.long l1), .second, .val (.int (((p3.toUInt32 >>> ((2 : Int32) &&& 31).toUInt32).toInt32) &&& (3 : Int32))), .val (.long l1), .second, .val (.long r_25), .second, .val (.ref b26), .val (.double (FP.ddiv (FP.l2d l1) (FP.l2d l1))), .second, .val (.double (FP.ddiv (FP.l2d l1) (FP.l2d l1))), .second] [(.int (0 : Int32))]) _
            refine own_st (fun t_ k_ => XS.iconst X32.here hx rfl (hb hby at_186) k_) ?_
            show own_Go p e below T32 (mkF m 187 #[.val (.long p0), .second, .val (.long p1), .second, .val (.long p2), .second, .val (.int p3), .val (.long l1), .second, .val (.int (((p3.toUInt32 >>> ((2 : Int32) &&& 31).toUInt32).toInt32) &&& (3 : Int32))), .val (.long l1), .second, .val (.long r_25), .second, .val (.ref b26), .val (.double (FP.ddiv (FP.l2d l1) (FP.l2d l1))), .second, .val (.double (FP.ddiv (FP.l2d l1) (FP.l2d l1))), .second] [(.int (0 : Int32)), (.int (0 : Int32))]) _
            refine own_st (fun t_ k_ => XS.icmpYes X32.here hx rfl (pc0 := 187) (pc' := 192) rfl (hb hby at_187) rfl (by decide) (by decide) (by decide) k_) ?_
            show own_Go p e below T32 (mkF m 192 #[.val (.long p0), .second, .val (.long p1), .second, .val (.long p2), .second, .val (.int p3), .val (.long l1), .second, .val (.int (((p3.toUInt32 >>> ((2 : Int32) &&& 31).toUInt32).toInt32) &&& (3 : Int32))), .val (.long l1), .second, .val (.long r_25), .second, .val (.ref b26), .val (.double (FP.ddiv (FP.l2d l1) (FP.l2d l1))), .second, .val (.double (FP.ddiv (FP.l2d l1) (FP.l2d l1))), .second] []) _
            refine own_st (fun t_ k_ => XS.lload X32.here hx rfl (hb hby at_192) rfl k_) ?_
            show own_Go p e below T32 (mkF m 194 #[.val (.long p0), .second, .val (.long p1), .second, .val (.long p2), .second, .val (.int p3), .val (.long l1), .second, .val (.int (((p3.toUInt32 >>> ((2 : Int32) &&& 31).toUInt32).toInt32) &&& (3 : Int32))), .val (.long l1), .second, .val (.long r_25), .second, .val (.ref b26), .val (.double (FP.ddiv (FP.l2d l1) (FP.l2d l1))), .second, .val (.double (FP.ddiv (FP.l2d l1) (FP.l2d l1))), .second] [(.long l1)]) _
            refine own_st (fun t_ k_ => XS.lload X32.here hx rfl (hb hby at_194) rfl k_) ?_
            show own_Go p e below T32 (mkF m 196 #[.val (.long p0), .second, .val (.long p1), .second, .val (.long p2), .second, .val (.int p3), .val (.long l1), .second, .val (.int (((p3.toUInt32 >>> ((2 : Int32) &&& 31).toUInt32).toInt32) &&& (3 : Int32))), .val (.long l1), .second, .val (.long r_25), .second, .val (.ref b26), .val (.double (FP.ddiv (FP.l2d l1) (FP.l2d l1))), .second, .val (.double (FP.ddiv (FP.l2d l1) (FP.l2d l1))), .second] [(.long l1), (.long l1)]) _
            refine own_st (fun t_ k_ => XS.lcmp X32.here hx rfl (hb hby at_196) rfl k_) ?_
            show own_Go p e below T32 (mkF m 197 #[.val (.long p0), .second, .val (.long p1), .second, .val (.long p2), .second, .val (.int p3), .val (.long l1), .second, .val (.int (((p3.toUInt32 >>> ((2 : Int32) &&& 31).toUInt32).toInt32) &&& (3 : Int32))), .val (.long l1), .second, .val (.long r_25), .second, .val (.ref b26), .val (.double (FP.ddiv (FP.l2d l1) (FP.l2d l1))), .second, .val (.double (FP.ddiv (FP.l2d l1) (FP.l2d l1))), .second] [(.int (lcmpW l1 l1))]) _
            by_cases hz2 : (lcmpW l1 l1) = (0 : Int32)
            · skip
              refine own_st (fun t_ k_ => XS.ifNo X32.here hx rfl (hb hby at_197) rfl ((if0 _ _).trans (teq hz2).2) k_) ?_
              show own_Go p e below T32 (mkF m 200 #[.val (.long p0), .second, .val (.long p1), .second, .val (.long p2), .second, .val (.int p3), .val (.long l1), .second, .val (.int (((p3.toUInt32 >>> ((2 : Int32) &&& 31).toUInt32).toInt32) &&& (3 : Int32))), .val (.long l1), .second, .val (.long r_25), .second, .val (.ref b26), .val (.double (FP.ddiv (FP.l2d l1) (FP.l2d l1))), .second, .val (.double (FP.ddiv (FP.l2d l1) (FP.l2d l1))), .second] []) _
              refine own_st (fun t_ k_ => XS.dload X32.here hx rfl (hb hby at_200) rfl k_) ?_
              show own_Go p e below T32 (mkF m 202 #[.val (.long p0), .second, .val (.long p1), .second, .val (.long p2), .second, .val (.int p3), .val (.long l1), .second, .val (.int (((p3.toUInt32 >>> ((2 : Int32) &&& 31).toUInt32).toInt32) &&& (3 : Int32))), .val (.long l1), .second, .val (.long r_25), .second, .val (.ref b26), .val (.double (FP.ddiv (FP.l2d l1) (FP.l2d l1))), .second, .val (.double (FP.ddiv (FP.l2d l1) (FP.l2d l1))), .second] [(.double (FP.ddiv (FP.l2d l1) (FP.l2d l1)))]) _
              refine own_st (fun t_ k_ => XS.dconst1 X32.here hx rfl (hb hby at_202) rfl k_) ?_
              show own_Go p e below T32 (mkF m 203 #[.val (.long p0), .second, .val (.long p1), .second, .val (.long p2), .second, .val (.int p3), .val (.long l1), .second, .val (.int (((p3.toUInt32 >>> ((2 : Int32) &&& 31).toUInt32).toInt32) &&& (3 : Int32))), .val (.long l1), .second, .val (.long r_25), .second, .val (.ref b26), .val (.double (FP.ddiv (FP.l2d l1) (FP.l2d l1))), .second, .val (.double (FP.ddiv (FP.l2d l1) (FP.l2d l1))), .second] [(.double FP.dconst1), (.double (FP.ddiv (FP.l2d l1) (FP.l2d l1)))]) _
              refine own_st (fun t_ k_ => XS.dcmpS X32.here hx rfl (hb hby at_203) rfl (own_q_eq1 hz2 htp) k_) ?_
              show own_Go p e below T32 (mkF m 204 #[.val (.long p0), .second, .val (.long p1), .second, .val (.long p2), .second, .val (.int p3), .val (.long l1), .second, .val (.int (((p3.toUInt32 >>> ((2 : Int32) &&& 31).toUInt32).toInt32) &&& (3 : Int32))), .val (.long l1), .second, .val (.long r_25), .second, .val (.ref b26), .val (.double (FP.ddiv (FP.l2d l1) (FP.l2d l1))), .second, .val (.double (FP.ddiv (FP.l2d l1) (FP.l2d l1))), .second] [(.int (0 : Int32))]) _
              refine own_st (fun t_ k_ => XS.ifYes X32.here hx rfl (pc0 := 204) (pc' := 209) rfl (hb hby at_204) rfl (by decide) (by decide) (by decide) k_) ?_
              show own_Go p e below T32 (mkF m 209 #[.val (.long p0), .second, .val (.long p1), .second, .val (.long p2), .second, .val (.int p3), .val (.long l1), .second, .val (.int (((p3.toUInt32 >>> ((2 : Int32) &&& 31).toUInt32).toInt32) &&& (3 : Int32))), .val (.long l1), .second, .val (.long r_25), .second, .val (.ref b26), .val (.double (FP.ddiv (FP.l2d l1) (FP.l2d l1))), .second, .val (.double (FP.ddiv (FP.l2d l1) (FP.l2d l1))), .second] []) _
              refine own_st (fun t_ k_ => XS.iconst X32.here hx rfl (hb hby at_209) k_) ?_
              show own_Go p e below T32 (mkF m 210 #[.val (.long p0), .second, .val (.long p1), .second, .val (.long p2), .second, .val (.int p3), .val (.long l1), .second, .val (.int (((p3.toUInt32 >>> ((2 : Int32) &&& 31).toUInt32).toInt32) &&& (3 : Int32))), .val (.long l1), .second, .val (.long r_25), .second, .val (.ref b26), .val (.double (FP.ddiv (FP.l2d l1) (FP.l2d l1))), .second, .val (.double (FP.ddiv (FP.l2d l1) (FP.l2d l1))), .second] [(.int (1 : Int32))]) _
              obtain ⟨fs, hr, hrun, hended, hW, hsame⟩ := X32.leave (v := some (.int (1 : Int32))) (fun h => by rw [Bd.returns] at h; cases h)
              refine own_fin (retN X32 hx (t := .boolean) Bd.returns (by simp) (hb hby at_210) hr) ⟨hrun, hended, _, _, rfl, ?_, ⟨_, rfl⟩, hW, hsame.mono (by decide) (by decide)⟩
              show Q_rmLaw Z p0 p1 p2 p3 h0 n0 _ T32.heap _
              rw [eH32]
              exact ⟨rfl, N32, K30⟩
            · skip
              refine own_st (fun t_ k_ => XS.ifYes X32.here hx rfl (pc0 := 197) (pc' := 209) rfl (hb hby at_197) rfl ((if0 _ _).trans (feq hz2).2) (by decide) (by decide) k_) ?_
              show own_Go p e below T32 (mkF m 209 #[.val (.long p0), .second, .val (.long p1), .second, .val (.long p2), .second, .val (.int p3), .val (.long l1), .second, .val (.int (((p3.toUInt32 >>> ((2 : Int32) &&& 31).toUInt32).toInt32) &&& (3 : Int32))), .val (.long l1), .second, .val (.long r_25), .second, .val (.ref b26), .val (.double (FP.ddiv (FP.l2d l1) (FP.l2d l1))), .second, .val (.double (FP.ddiv (FP.l2d l1) (FP.l2d l1))), .second] []) _
              refine own_st (fun t_ k_ => XS.iconst X32.here hx rfl (hb hby at_209) k_) ?_
              show own_Go p e below T32 (mkF m 210 #[.val (.long p0), .second, .val (.long p1), .second, .val (.long p2), .second, .val (.int p3), .val (.long l1), .second, .val (.int (((p3.toUInt32 >>> ((2 : Int32) &&& 31).toUInt32).toInt32) &&& (3 : Int32))), .val (.long l1), .second, .val (.long r_25), .second, .val (.ref b26), .val (.double (FP.ddiv (FP.l2d l1) (FP.l2d l1))), .second, .val (.double (FP.ddiv (FP.l2d l1) (FP.l2d l1))), .second] [(.int (1 : Int32))]) _
              obtain ⟨fs, hr, hrun, hended, hW, hsame⟩ := X32.leave (v := some (.int (1 : Int32))) (fun h => by rw [Bd.returns] at h; cases h)
              refine own_fin (retN X32 hx (t := .boolean) Bd.returns (by simp) (hb hby at_210) hr) ⟨hrun, hended, _, _, rfl, ?_, ⟨_, rfl⟩, hW, hsame.mono (by decide) (by decide)⟩
              show Q_rmLaw Z p0 p1 p2 p3 h0 n0 _ T32.heap _
              rw [eH32]
              exact ⟨rfl, N32, K30⟩
        · skip
          refine own_st (fun t_ k_ => XS.icmpYes X0.here hx rfl (pc0 := 53) (pc' := 63) rfl (hb hby at_53) rfl (feq hk1).2 (by decide) (by decide) k_) ?_
          show own_Go p e below s₁ (mkF m 63 #[.val (.long p0), .second, .val (.long p1), .second, .val (.long p2), .second, .val (.int p3), .val (.long l1), .second, .val (.int (((p3.toUInt32 >>> ((2 : Int32) &&& 31).toUInt32).toInt32) &&& (3 : Int32))), .unset, .unset, .unset, .unset, .unset, .unset, .unset, .unset, .unset] []) _
          refine own_st (fun t_ k_ => XS.lload X0.here hx rfl (hb hby at_63) rfl k_) ?_
          show own_Go p e below s₁ (mkF m 65 #[.val (.long p0), .second, .val (.long p1), .second, .val (.long p2), .second, .val (.int p3), .val (.long l1), .second, .val (.int (((p3.toUInt32 >>> ((2 : Int32) &&& 31).toUInt32).toInt32) &&& (3 : Int32))), .unset, .unset, .unset, .unset, .unset, .unset, .unset, .unset, .unset] [(.long p2)]) _
          refine own_st (fun t_ k_ => X0.ldc2Long hx hown (mvT hZ (hw _ (List.mem_of_getElem? (i := 0) rfl))) (g := (mkF m 65 #[.val (.long p0), .second, .val (.long p1), .second, .val (.long p2), .second, .val (.int p3), .val (.long l1), .second, .val (.int (((p3.toUInt32 >>> ((2 : Int32) &&& 31).toUInt32).toInt32) &&& (3 : Int32))), .unset, .unset, .unset, .unset, .unset, .unset, .unset, .unset, .unset] [(.long p2)])) rfl (hb hby at_65) _ k_) ?_
          show own_Go p e below s₁ (mkF m 68 #[.val (.long p0), .second, .val (.long p1), .second, .val (.long p2), .second, .val (.int p3), .val (.long l1), .second, .val (.int (((p3.toUInt32 >>> ((2 : Int32) &&& 31).toUInt32).toInt32) &&& (3 : Int32))), .unset, .unset, .unset, .unset, .unset, .unset, .unset, .unset, .unset] [(.long (9223372036854775807 : Int64)), (.long p2)]) _
          refine own_st (fun t_ k_ => XS.land X0.here hx rfl (hb hby at_68) rfl k_) ?_
          show own_Go p e below s₁ (mkF m 69 #[.val (.long p0), .second, .val (.long p1), .second, .val (.long p2), .second, .val (.int p3), .val (.long l1), .second, .val (.int (((p3.toUInt32 >>> ((2 : Int32) &&& 31).toUInt32).toInt32) &&& (3 : Int32))), .unset, .unset, .unset, .unset, .unset, .unset, .unset, .unset, .unset] [(.long (p2 &&& (9223372036854775807 : Int64)))]) _
          refine own_st (fun t_ k_ => XS.lload X0.here hx rfl (hb hby at_69) rfl k_) ?_
          show own_Go p e below s₁ (mkF m 71 #[.val (.long p0), .second, .val (.long p1), .second, .val (.long p2), .second, .val (.int p3), .val (.long l1), .second, .val (.int (((p3.toUInt32 >>> ((2 : Int32) &&& 31).toUInt32).toInt32) &&& (3 : Int32))), .unset, .unset, .unset, .unset, .unset, .unset, .unset, .unset, .unset] [(.long l1), (.long (p2 &&& (9223372036854775807 : Int64)))]) _
          refine own_st (fun t_ k_ => XS.lrem X0.here hx rfl (hb hby at_71) rfl (fun h => by subst h; exact absurd htp (by decide)) k_) ?_
          show own_Go p e below s₁ (mkF m 72 #[.val (.long p0), .second, .val (.long p1), .second, .val (.long p2), .second, .val (.int p3), .val (.long l1), .second, .val (.int (((p3.toUInt32 >>> ((2 : Int32) &&& 31).toUInt32).toInt32) &&& (3 : Int32))), .unset, .unset, .unset, .unset, .unset, .unset, .unset, .unset, .unset] [(.long ((p2 &&& (9223372036854775807 : Int64)) - ((p2 &&& (9223372036854775807 : Int64)) / l1) * l1))]) _
          obtain ⟨hc0, hct⟩ := own_rem (own_maxL p2) htp
          generalize ((p2 &&& (9223372036854775807 : Int64)) - ((p2 &&& (9223372036854775807 : Int64)) / l1) * l1) = c1 at hc0 hct ⊢
          show own_Go p e below s₁ (mkF m 72 #[.val (.long p0), .second, .val (.long p1), .second, .val (.long p2), .second, .val (.int p3), .val (.long l1), .second, .val (.int (((p3.toUInt32 >>> ((2 : Int32) &&& 31).toUInt32).toInt32) &&& (3 : Int32))), .unset, .unset, .unset, .unset, .unset, .unset, .unset, .unset, .unset] [(.long c1)]) _
          refine own_st (fun t_ k_ => XS.lstore X0.here hx rfl (hb hby at_72) rfl (l' := #[.val (.long p0), .second, .val (.long p1), .second, .val (.long p2), .second, .val (.int p3), .val (.long l1), .second, .val (.int (((p3.toUInt32 >>> ((2 : Int32) &&& 31).toUInt32).toInt32) &&& (3 : Int32))), .val (.long c1), .second, .unset, .unset, .unset, .unset, .unset, .unset, .unset]) rfl k_) ?_
          show own_Go p e below s₁ (mkF m 74 #[.val (.long p0), .second, .val (.long p1), .second, .val (.long p2), .second, .val (.int p3), .val (.long l1), .second, .val (.int (((p3.toUInt32 >>> ((2 : Int32) &&& 31).toUInt32).toInt32) &&& (3 : Int32))), .val (.long c1), .second, .unset, .unset, .unset, .unset, .unset, .unset, .unset] []) _
          refine own_st (fun t_ k_ => XS.lload X0.here hx rfl (hb hby at_74) rfl k_) ?_
          show own_Go p e below s₁ (mkF m 76 #[.val (.long p0), .second, .val (.long p1), .second, .val (.long p2), .second, .val (.int p3), .val (.long l1), .second, .val (.int (((p3.toUInt32 >>> ((2 : Int32) &&& 31).toUInt32).toInt32) &&& (3 : Int32))), .val (.long c1), .second, .unset, .unset, .unset, .unset, .unset, .unset, .unset] [(.long c1)]) _
          refine own_st (fun t_ k_ => XS.lloadN X0.here hx rfl (hb hby at_76) rfl k_) ?_
          show own_Go p e below s₁ (mkF m 77 #[.val (.long p0), .second, .val (.long p1), .second, .val (.long p2), .second, .val (.int p3), .val (.long l1), .second, .val (.int (((p3.toUInt32 >>> ((2 : Int32) &&& 31).toUInt32).toInt32) &&& (3 : Int32))), .val (.long c1), .second, .unset, .unset, .unset, .unset, .unset, .unset, .unset] [(.long p1), (.long c1)]) _
          refine own_st (fun t_ k_ => X0.ldc2Long hx hown (mvT hZ (hw _ (List.mem_of_getElem? (i := 0) rfl))) (g := (mkF m 77 #[.val (.long p0), .second, .val (.long p1), .second, .val (.long p2), .second, .val (.int p3), .val (.long l1), .second, .val (.int (((p3.toUInt32 >>> ((2 : Int32) &&& 31).toUInt32).toInt32) &&& (3 : Int32))), .val (.long c1), .second, .unset, .unset, .unset, .unset, .unset, .unset, .unset] [(.long p1), (.long c1)])) rfl (hb hby at_77) _ k_) ?_
          show own_Go p e below s₁ (mkF m 80 #[.val (.long p0), .second, .val (.long p1), .second, .val (.long p2), .second, .val (.int p3), .val (.long l1), .second, .val (.int (((p3.toUInt32 >>> ((2 : Int32) &&& 31).toUInt32).toInt32) &&& (3 : Int32))), .val (.long c1), .second, .unset, .unset, .unset, .unset, .unset, .unset, .unset] [(.long (9223372036854775807 : Int64)), (.long p1), (.long c1)]) _
          refine own_st (fun t_ k_ => XS.land X0.here hx rfl (hb hby at_80) rfl k_) ?_
          show own_Go p e below s₁ (mkF m 81 #[.val (.long p0), .second, .val (.long p1), .second, .val (.long p2), .second, .val (.int p3), .val (.long l1), .second, .val (.int (((p3.toUInt32 >>> ((2 : Int32) &&& 31).toUInt32).toInt32) &&& (3 : Int32))), .val (.long c1), .second, .unset, .unset, .unset, .unset, .unset, .unset, .unset] [(.long (p1 &&& (9223372036854775807 : Int64))), (.long c1)]) _
          obtain ⟨_, _, ⟨T33, L33, k33, n33⟩, -, X33, ⟨Lc33, hQ33, l33, y33, z33⟩, st33⟩ := Jvm.LawKit.callS X0 hx (y := (⟨"java/lang/Math", "max", "(JJ)J"⟩ : MethodName)) hown (mvT hZ (hw _ (List.mem_of_getElem? (i := 1) rfl))) (mvT hZ (hw _ (List.mem_of_getElem? (i := 2) rfl))) (mvT hZ (hw _ (List.mem_of_getElem? (i := 3) rfl))) (mvT hZ (hw _ (List.mem_of_getElem? (i := 4) rfl))) (by decide) (backOf (W := 0) (rmMax l Z a0 hw [] c1 ((p1 &&& (9223372036854775807 : Int64))) h0 n0 Z0 ) hZ (hw _ (List.mem_of_getElem? (i := 4) rfl)) (hw _ (List.mem_of_getElem? (i := 3) rfl)) (by decide) (by decide)) (g := (mkF m 81 #[.val (.long p0), .second, .val (.long p1), .second, .val (.long p2), .second, .val (.int p3), .val (.long l1), .second, .val (.int (((p3.toUInt32 >>> ((2 : Int32) &&& 31).toUInt32).toInt32) &&& (3 : Int32))), .val (.long c1), .second, .unset, .unset, .unset, .unset, .unset, .unset, .unset] [(.long (p1 &&& (9223372036854775807 : Int64))), (.long c1)])) rfl (by rw [hml]; rfl) (argsL := [(.long c1), (.long (p1 &&& (9223372036854775807 : Int64)))]) (rest := []) (lenOf pd__JJ_J rfl) rfl (by show 2 * 0 + _ ≤ _; exact Nat.le_of_eq rfl) (hb hby at_81) (fun _ _ => ⟨rfl, e0, (by decide : 0 + 0 ≤ _), (by decide : 0 + 0 ≤ _)⟩)
          dsimp only [Pt.U, Pt.locs, Pt.cells, Pt.slots] at X33 l33 y33 z33 st33 hQ33
          subst l33 y33 z33
          obtain ⟨r_33, rfl, Nq33, eH33, q33_0⟩ := hQ33
          have N33 := Fr.app N0 Nq33
          refine own_st st33 ?_
          show own_Go p e below T33 (mkF m 84 #[.val (.long p0), .second, .val (.long p1), .second, .val (.long p2), .second, .val (.int p3), .val (.long l1), .second, .val (.int (((p3.toUInt32 >>> ((2 : Int32) &&& 31).toUInt32).toInt32) &&& (3 : Int32))), .val (.long c1), .second, .unset, .unset, .unset, .unset, .unset, .unset, .unset] [(.long r_33)]) _
          refine own_st (fun t_ k_ => XS.lstore X33.here hx rfl (hb hby at_84) rfl (l' := #[.val (.long p0), .second, .val (.long p1), .second, .val (.long p2), .second, .val (.int p3), .val (.long l1), .second, .val (.int (((p3.toUInt32 >>> ((2 : Int32) &&& 31).toUInt32).toInt32) &&& (3 : Int32))), .val (.long c1), .second, .val (.long r_33), .second, .unset, .unset, .unset, .unset, .unset]) rfl k_) ?_
          show own_Go p e below T33 (mkF m 86 #[.val (.long p0), .second, .val (.long p1), .second, .val (.long p2), .second, .val (.int p3), .val (.long l1), .second, .val (.int (((p3.toUInt32 >>> ((2 : Int32) &&& 31).toUInt32).toInt32) &&& (3 : Int32))), .val (.long c1), .second, .val (.long r_33), .second, .unset, .unset, .unset, .unset, .unset] []) _
          obtain ⟨T34, h34, X34, e34, E34, A34, D34, -, st34⟩ := newO X33 hx hZ hown (hw _ (List.mem_of_getElem? (i := 5) rfl)) (hw _ (List.mem_of_getElem? (i := 6) rfl)) (hw _ (List.mem_of_getElem? (i := 7) rfl)) eH33 (g := (mkF m 86 #[.val (.long p0), .second, .val (.long p1), .second, .val (.long p2), .second, .val (.int p3), .val (.long l1), .second, .val (.int (((p3.toUInt32 >>> ((2 : Int32) &&& 31).toUInt32).toInt32) &&& (3 : Int32))), .val (.long c1), .second, .val (.long r_33), .second, .unset, .unset, .unset, .unset, .unset] [])) rfl (hb hby at_86) (by decide) (by decide)
          obtain ⟨b34, g34⟩ : ∃ z, z = h0.size := ⟨_, rfl⟩
          rw [← g34] at A34 D34 st34
          have G34 : n0 ≤ b34 := Nat.le_trans Z0 (Nat.le_of_eq g34.symm)
          have B34 : h0.size ≤ b34 := Nat.le_trans (Keep.refl h0 []).1 (Nat.le_of_eq g34.symm)
          have K35 : Keep h0 h34 [] := (Keep.refl h0 []).ext E34
          have D34_truePairs : Fld Z h34 b34 "com/example/goldweave/goldweave/engine/evaluation/PairwiseAccuracy" "truePairs" "J" (.long (0 : Int64)) := D34 (Or.inr (hw _ (List.mem_of_getElem? (i := 20) rfl))) (ty := .long) (by decide)
          have D34_linkedPairs : Fld Z h34 b34 "com/example/goldweave/goldweave/engine/evaluation/PairwiseAccuracy" "linkedPairs" "J" (.long (0 : Int64)) := D34 (Or.inr (hw _ (List.mem_of_getElem? (i := 22) rfl))) (ty := .long) (by decide)
          have D34_correctPairs : Fld Z h34 b34 "com/example/goldweave/goldweave/engine/evaluation/PairwiseAccuracy" "correctPairs" "J" (.long (0 : Int64)) := D34 (Or.inr (hw _ (List.mem_of_getElem? (i := 24) rfl))) (ty := .long) (by decide)
          refine own_st st34 ?_
          show own_Go p e below T34 (mkF m 89 #[.val (.long p0), .second, .val (.long p1), .second, .val (.long p2), .second, .val (.int p3), .val (.long l1), .second, .val (.int (((p3.toUInt32 >>> ((2 : Int32) &&& 31).toUInt32).toInt32) &&& (3 : Int32))), .val (.long c1), .second, .val (.long r_33), .second, .unset, .unset, .unset, .unset, .unset] [(.ref b34)]) _
          refine own_st (fun t_ k_ => XS.dup X34.here hx rfl (hb hby at_89) rfl rfl k_) ?_
          show own_Go p e below T34 (mkF m 90 #[.val (.long p0), .second, .val (.long p1), .second, .val (.long p2), .second, .val (.int p3), .val (.long l1), .second, .val (.int (((p3.toUInt32 >>> ((2 : Int32) &&& 31).toUInt32).toInt32) &&& (3 : Int32))), .val (.long c1), .second, .val (.long r_33), .second, .unset, .unset, .unset, .unset, .unset] [(.ref b34), (.ref b34)]) _
          refine own_st (fun t_ k_ => XS.lload X34.here hx rfl (hb hby at_90) rfl k_) ?_
          show own_Go p e below T34 (mkF m 92 #[.val (.long p0), .second, .val (.long p1), .second, .val (.long p2), .second, .val (.int p3), .val (.long l1), .second, .val (.int (((p3.toUInt32 >>> ((2 : Int32) &&& 31).toUInt32).toInt32) &&& (3 : Int32))), .val (.long c1), .second, .val (.long r_33), .second, .unset, .unset, .unset, .unset, .unset] [(.long r_33), (.ref b34), (.ref b34)]) _
          refine own_st (fun t_ k_ => XS.lload X34.here hx rfl (hb hby at_92) rfl k_) ?_
          show own_Go p e below T34 (mkF m 94 #[.val (.long p0), .second, .val (.long p1), .second, .val (.long p2), .second, .val (.int p3), .val (.long l1), .second, .val (.int (((p3.toUInt32 >>> ((2 : Int32) &&& 31).toUInt32).toInt32) &&& (3 : Int32))), .val (.long c1), .second, .val (.long r_33), .second, .unset, .unset, .unset, .unset, .unset] [(.long l1), (.long r_33), (.ref b34), (.ref b34)]) _
          refine own_st (fun t_ k_ => XS.lload X34.here hx rfl (hb hby at_94) rfl k_) ?_
          show own_Go p e below T34 (mkF m 96 #[.val (.long p0), .second, .val (.long p1), .second, .val (.long p2), .second, .val (.int p3), .val (.long l1), .second, .val (.int (((p3.toUInt32 >>> ((2 : Int32) &&& 31).toUInt32).toInt32) &&& (3 : Int32))), .val (.long c1), .second, .val (.long r_33), .second, .unset, .unset, .unset, .unset, .unset] [(.long c1), (.long l1), (.long r_33), (.ref b34), (.ref b34)]) _
          have f36 := (Nat.le_trans Z0 E34.1)
          obtain ⟨_, _, ⟨T37, L37, k37, n37⟩, -, X37, ⟨Lc37, hQ37, l37, y37, z37⟩, st37⟩ := X34.specialBack hx (y := (⟨"com/example/goldweave/goldweave/engine/evaluation/PairwiseAccuracy", "<init>", "(JJJ)V"⟩ : MethodName)) rfl hown (mvT hZ (hw _ (List.mem_of_getElem? (i := 8) rfl))) (mvT hZ (hw _ (List.mem_of_getElem? (i := 9) rfl))) (mvT hZ (hw _ (List.mem_of_getElem? (i := 10) rfl))) (by decide) (backOf (W := 1) (rmPA l Z a0 hw [] b34 r_33 l1 c1 ((.long (0 : Int64))) ((.long (0 : Int64))) ((.long (0 : Int64))) h34 n0 f36 A34 D34_truePairs D34_linkedPairs D34_correctPairs G34 hc0 q33_0.1 hct) hZ (hw _ (List.mem_of_getElem? (i := 10) rfl)) (hw _ (List.mem_of_getElem? (i := 7) rfl)) (by decide) (by decide)) (g := (mkF m 96 #[.val (.long p0), .second, .val (.long p1), .second, .val (.long p2), .second, .val (.int p3), .val (.long l1), .second, .val (.int (((p3.toUInt32 >>> ((2 : Int32) &&& 31).toUInt32).toInt32) &&& (3 : Int32))), .val (.long c1), .second, .val (.long r_33), .second, .unset, .unset, .unset, .unset, .unset] [(.long c1), (.long l1), (.long r_33), (.ref b34), (.ref b34)])) rfl (by rw [hml]; rfl) (Steps.refl _) (a := b34) (argsL := [(.long r_33), (.long l1), (.long c1)]) (rest := [(.ref b34)]) (lenOf pd__JJJ_V rfl) rfl (by show 2 * 0 + _ ≤ _; exact Nat.le_of_eq rfl) (hb hby at_96) (fun _ _ => ⟨rfl, e34, (by decide : 1 + 0 ≤ _), (by decide : 3 + 0 ≤ _)⟩)
          dsimp only [Pt.U, Pt.locs, Pt.cells, Pt.slots] at X37 l37 y37 z37 st37 hQ37
          subst l37 y37 z37
          obtain ⟨rfl, Nq37, Kq37, q37_0, q37_1, q37_2, q37_3⟩ := hQ37
          have N37 := Fr.app N33 Nq37
          have K38 : Keep h0 T37.heap [] := K35.trans Kq37 (allS (Or.inr B34) all0)
          refine own_tr st37 ?_
          show own_Go p e below T37 (mkF m 99 #[.val (.long p0), .second, .val (.long p1), .second, .val (.long p2), .second, .val (.int p3), .val (.long l1), .second, .val (.int (((p3.toUInt32 >>> ((2 : Int32) &&& 31).toUInt32).toInt32) &&& (3 : Int32))), .val (.long c1), .second, .val (.long r_33), .second, .unset, .unset, .unset, .unset, .unset] [(.ref b34)]) _
          refine own_st (fun t_ k_ => XS.astore X37.here hx rfl (hb hby at_99) rfl rfl (l' := #[.val (.long p0), .second, .val (.long p1), .second, .val (.long p2), .second, .val (.int p3), .val (.long l1), .second, .val (.int (((p3.toUInt32 >>> ((2 : Int32) &&& 31).toUInt32).toInt32) &&& (3 : Int32))), .val (.long c1), .second, .val (.long r_33), .second, .val (.ref b34), .unset, .unset, .unset, .unset]) rfl k_) ?_
          show own_Go p e below T37 (mkF m 101 #[.val (.long p0), .second, .val (.long p1), .second, .val (.long p2), .second, .val (.int p3), .val (.long l1), .second, .val (.int (((p3.toUInt32 >>> ((2 : Int32) &&& 31).toUInt32).toInt32) &&& (3 : Int32))), .val (.long c1), .second, .val (.long r_33), .second, .val (.ref b34), .unset, .unset, .unset, .unset] []) _
          refine own_st (fun t_ k_ => XS.aload X37.here hx rfl (hb hby at_101) rfl rfl k_) ?_
          show own_Go p e below T37 (mkF m 103 #[.val (.long p0), .second, .val (.long p1), .second, .val (.long p2), .second, .val (.int p3), .val (.long l1), .second, .val (.int (((p3.toUInt32 >>> ((2 : Int32) &&& 31).toUInt32).toInt32) &&& (3 : Int32))), .val (.long c1), .second, .val (.long r_33), .second, .val (.ref b34), .unset, .unset, .unset, .unset] [(.ref b34)]) _
          have f39 := (Nat.le_trans f36 Kq37.1)
          obtain ⟨cq40, kq40, qa40, qb40, qc40⟩ := isOf hZ rfl q37_0
          obtain ⟨_, _, ⟨T40, L40, k40, n40⟩, -, X40, ⟨Lc40, hQ40, l40, y40, z40⟩, st40⟩ := X37.virtualBack hx (y := (⟨"com/example/goldweave/goldweave/engine/evaluation/PairwiseAccuracy", "precision", "()D"⟩ : MethodName)) (z := (⟨"com/example/goldweave/goldweave/engine/evaluation/PairwiseAccuracy", "precision", "()D"⟩ : MethodName)) hown (mvT hZ (hw _ (List.mem_of_getElem? (i := 25) rfl))) (mvT hZ (hw _ (List.mem_of_getElem? (i := 26) rfl))) (notFace_of_selects (args := #[]) (mvT hZ (hw _ (List.mem_of_getElem? (i := 28) rfl)))) (mvT hZ (hw _ (List.mem_of_getElem? (i := 28) rfl))) (mvT hZ (hw _ (List.mem_of_getElem? (i := 27) rfl))) (by decide) (backOf (W := 0) (rmRe1 l Z a0 hw [] b34 c1 l1 T37.heap n0 f39 q37_3 q37_2 hc0 htp) hZ (hw _ (List.mem_of_getElem? (i := 29) rfl)) (hw _ (List.mem_of_getElem? (i := 7) rfl)) (by decide) (by decide)) qa40 qc40 (g := (mkF m 103 #[.val (.long p0), .second, .val (.long p1), .second, .val (.long p2), .second, .val (.int p3), .val (.long l1), .second, .val (.int (((p3.toUInt32 >>> ((2 : Int32) &&& 31).toUInt32).toInt32) &&& (3 : Int32))), .val (.long c1), .second, .val (.long r_33), .second, .val (.ref b34), .unset, .unset, .unset, .unset] [(.ref b34)])) rfl (by rw [hml]; rfl) (Steps.refl _) (argsL := []) (rest := []) (lenOf pd___D rfl) rfl (by show 2 * 0 + _ ≤ _; exact Nat.le_of_eq rfl) (hb hby at_103) (fun _ _ => ⟨rfl, rfl, (by decide : 1 + 0 ≤ _), (by decide : 3 + 0 ≤ _)⟩)
          dsimp only [Pt.U, Pt.locs, Pt.cells, Pt.slots] at X40 l40 y40 z40 st40 hQ40
          subst l40 y40 z40
          obtain ⟨rfl, Nq40, eH40⟩ := hQ40
          have N40 := Fr.app N37 Nq40
          refine own_tr st40 ?_
          show own_Go p e below T40 (mkF m 106 #[.val (.long p0), .second, .val (.long p1), .second, .val (.long p2), .second, .val (.int p3), .val (.long l1), .second, .val (.int (((p3.toUInt32 >>> ((2 : Int32) &&& 31).toUInt32).toInt32) &&& (3 : Int32))), .val (.long c1), .second, .val (.long r_33), .second, .val (.ref b34), .unset, .unset, .unset, .unset] [(.double (FP.ddiv (FP.l2d c1) (FP.l2d l1)))]) _
          refine own_st (fun t_ k_ => XS.dstore X40.here hx rfl (hb hby at_106) rfl (l' := #[.val (.long p0), .second, .val (.long p1), .second, .val (.long p2), .second, .val (.int p3), .val (.long l1), .second, .val (.int (((p3.toUInt32 >>> ((2 : Int32) &&& 31).toUInt32).toInt32) &&& (3 : Int32))), .val (.long c1), .second, .val (.long r_33), .second, .val (.ref b34), .val (.double (FP.ddiv (FP.l2d c1) (FP.l2d l1))), .second, .unset, .unset]) rfl k_) ?_
          show own_Go p e below T40 (mkF m 108 #[.val (.long p0), .second, .val (.long p1), .second, .val (.long p2), .second, .val (.int p3), .val (.long l1), .second, .val (.int (((p3.toUInt32 >>> ((2 : Int32) &&& 31).toUInt32).toInt32) &&& (3 : Int32))), .val (.long c1), .second, .val (.long r_33), .second, .val (.ref b34), .val (.double (FP.ddiv (FP.l2d c1) (FP.l2d l1))), .second, .unset, .unset] []) _
          refine own_st (fun t_ k_ => XS.lload X40.here hx rfl (hb hby at_108) rfl k_) ?_
          show own_Go p e below T40 (mkF m 110 #[.val (.long p0), .second, .val (.long p1), .second, .val (.long p2), .second, .val (.int p3), .val (.long l1), .second, .val (.int (((p3.toUInt32 >>> ((2 : Int32) &&& 31).toUInt32).toInt32) &&& (3 : Int32))), .val (.long c1), .second, .val (.long r_33), .second, .val (.ref b34), .val (.double (FP.ddiv (FP.l2d c1) (FP.l2d l1))), .second, .unset, .unset] [(.long l1)]) _
          refine own_st (fun t_ k_ => XS.lconst X40.here hx rfl (hb hby at_110) k_) ?_
          show own_Go p e below T40 (mkF m 111 #[.val (.long p0), .second, .val (.long p1), .second, .val (.long p2), .second, .val (.int p3), .val (.long l1), .second, .val (.int (((p3.toUInt32 >>> ((2 : Int32) &&& 31).toUInt32).toInt32) &&& (3 : Int32))), .val (.long c1), .second, .val (.long r_33), .second, .val (.ref b34), .val (.double (FP.ddiv (FP.l2d c1) (FP.l2d l1))), .second, .unset, .unset] [(.long (0 : Int64)), (.long l1)]) _
          refine own_st (fun t_ k_ => XS.lcmp X40.here hx rfl (hb hby at_111) rfl k_) ?_
          show own_Go p e below T40 (mkF m 112 #[.val (.long p0), .second, .val (.long p1), .second, .val (.long p2), .second, .val (.int p3), .val (.long l1), .second, .val (.int (((p3.toUInt32 >>> ((2 : Int32) &&& 31).toUInt32).toInt32) &&& (3 : Int32))), .val (.long c1), .second, .val (.long r_33), .second, .val (.ref b34), .val (.double (FP.ddiv (FP.l2d c1) (FP.l2d l1))), .second, .unset, .unset] [(.int (lcmpW l1 (0 : Int64)))]) _
          refine own_st (fun t_ k_ => XS.ifYes X40.here hx rfl (pc0 := 112) (pc' := 128) rfl (hb hby at_112) rfl ((if0 _ _).trans (feq htn).2) (by decide) (by decide) k_) ?_
          show own_Go p e below T40 (mkF m 128 #[.val (.long p0), .second, .val (.long p1), .second, .val (.long p2), .second, .val (.int p3), .val (.long l1), .second, .val (.int (((p3.toUInt32 >>> ((2 : Int32) &&& 31).toUInt32).toInt32) &&& (3 : Int32))), .val (.long c1), .second, .val (.long r_33), .second, .val (.ref b34), .val (.double (FP.ddiv (FP.l2d c1) (FP.l2d l1))), .second, .unset, .unset] []) _
          refine own_st (fun t_ k_ => XS.lload X40.here hx rfl (hb hby at_128) rfl k_) ?_
          show own_Go p e below T40 (mkF m 130 #[.val (.long p0), .second, .val (.long p1), .second, .val (.long p2), .second, .val (.int p3), .val (.long l1), .second, .val (.int (((p3.toUInt32 >>> ((2 : Int32) &&& 31).toUInt32).toInt32) &&& (3 : Int32))), .val (.long c1), .second, .val (.long r_33), .second, .val (.ref b34), .val (.double (FP.ddiv (FP.l2d c1) (FP.l2d l1))), .second, .unset, .unset] [(.long c1)]) _
          refine own_st (fun t_ k_ => XS.l2dS X40.here hx rfl (hb hby at_130) rfl rfl k_) ?_
          show own_Go p e below T40 (mkF m 131 #[.val (.long p0), .second, .val (.long p1), .second, .val (.long p2), .second, .val (.int p3), .val (.long l1), .second, .val (.int (((p3.toUInt32 >>> ((2 : Int32) &&& 31).toUInt32).toInt32) &&& (3 : Int32))), .val (.long c1), .second, .val (.long r_33), .second, .val (.ref b34), .val (.double (FP.ddiv (FP.l2d c1) (FP.l2d l1))), .second, .unset, .unset] [(.double (FP.l2d c1))]) _
          refine own_st (fun t_ k_ => XS.lload X40.here hx rfl (hb hby at_131) rfl k_) ?_
          show own_Go p e below T40 (mkF m 133 #[.val (.long p0), .second, .val (.long p1), .second, .val (.long p2), .second, .val (.int p3), .val (.long l1), .second, .val (.int (((p3.toUInt32 >>> ((2 : Int32) &&& 31).toUInt32).toInt32) &&& (3 : Int32))), .val (.long c1), .second, .val (.long r_33), .second, .val (.ref b34), .val (.double (FP.ddiv (FP.l2d c1) (FP.l2d l1))), .second, .unset, .unset] [(.long l1), (.double (FP.l2d c1))]) _
          refine own_st (fun t_ k_ => XS.l2dS X40.here hx rfl (hb hby at_133) rfl rfl k_) ?_
          show own_Go p e below T40 (mkF m 134 #[.val (.long p0), .second, .val (.long p1), .second, .val (.long p2), .second, .val (.int p3), .val (.long l1), .second, .val (.int (((p3.toUInt32 >>> ((2 : Int32) &&& 31).toUInt32).toInt32) &&& (3 : Int32))), .val (.long c1), .second, .val (.long r_33), .second, .val (.ref b34), .val (.double (FP.ddiv (FP.l2d c1) (FP.l2d l1))), .second, .unset, .unset] [(.double (FP.l2d l1)), (.double (FP.l2d c1))]) _
          refine own_st (fun t_ k_ => XS.ddivS X40.here hx rfl (hb hby at_134) rfl (own_q_nn hc0 htp) rfl k_) ?_
          show own_Go p e below T40 (mkF m 135 #[.val (.long p0), .second, .val (.long p1), .second, .val (.long p2), .second, .val (.int p3), .val (.long l1), .second, .val (.int (((p3.toUInt32 >>> ((2 : Int32) &&& 31).toUInt32).toInt32) &&& (3 : Int32))), .val (.long c1), .second, .val (.long r_33), .second, .val (.ref b34), .val (.double (FP.ddiv (FP.l2d c1) (FP.l2d l1))), .second, .unset, .unset] [(.double (FP.ddiv (FP.l2d c1) (FP.l2d l1)))]) _
          refine own_st (fun t_ k_ => XS.dstore X40.here hx rfl (hb hby at_135) rfl (l' := #[.val (.long p0), .second, .val (.long p1), .second, .val (.long p2), .second, .val (.int p3), .val (.long l1), .second, .val (.int (((p3.toUInt32 >>> ((2 : Int32) &&& 31).toUInt32).toInt32) &&& (3 : Int32))), .val (.long c1), .second, .val (.long r_33), .second, .val (.ref b34), .val (.double (FP.ddiv (FP.l2d c1) (FP.l2d l1))), .second, .val (.double (FP.ddiv (FP.l2d c1) (FP.l2d l1))), .second]) rfl k_) ?_
          show own_Go p e below T40 (mkF m 137 #[.val (.long p0), .second, .val (.long p1), .second, .val (.long p2), .second, .val (.int p3), .val (.long l1), .second, .val (.int (((p3.toUInt32 >>> ((2 : Int32) &&& 31).toUInt32).toInt32) &&& (3 : Int32))), .val (.long c1), .second, .val (.long r_33), .second, .val (.ref b34), .val (.double (FP.ddiv (FP.l2d c1) (FP.l2d l1))), .second, .val (.double (FP.ddiv (FP.l2d c1) (FP.l2d l1))), .second] []) _
          refine own_st (fun t_ k_ => XS.dload X40.here hx rfl (hb hby at_137) rfl k_) ?_
          show own_Go p e below T40 (mkF m 139 #[.val (.long p0), .second, .val (.long p1), .second, .val (.long p2), .second, .val (.int p3), .val (.long l1), .second, .val (.int (((p3.toUInt32 >>> ((2 : Int32) &&& 31).toUInt32).toInt32) &&& (3 : Int32))), .val (.long c1), .second, .val (.long r_33), .second, .val (.ref b34), .val (.double (FP.ddiv (FP.l2d c1) (FP.l2d l1))), .second, .val (.double (FP.ddiv (FP.l2d c1) (FP.l2d l1))), .second] [(.double (FP.ddiv (FP.l2d c1) (FP.l2d l1)))]) _
          refine own_st (fun t_ k_ => XS.dload X40.here hx rfl (hb hby at_139) rfl k_) ?_
          show own_Go p e below T40 (mkF m 141 #[.val (.long p0), .second, .val (.long p1), .second, .val (.long p2), .second, .val (.int p3), .val (.long l1), .second, .val (.int (((p3.toUInt32 >>> ((2 : Int32) &&& 31).toUInt32).toInt32) &&& (3 : Int32))), .val (.long c1), .second, .val (.long r_33), .second, .val (.ref b34), .val (.double (FP.ddiv (FP.l2d c1) (FP.l2d l1))), .second, .val (.double (FP.ddiv (FP.l2d c1) (FP.l2d l1))), .second] [(.double (FP.ddiv (FP.l2d c1) (FP.l2d l1))), (.double (FP.ddiv (FP.l2d c1) (FP.l2d l1)))]) _
          refine own_st (fun t_ k_ => XS.dcmpS X40.here hx rfl (hb hby at_141) rfl (dcmpV_self (own_q_nn hc0 htp) _) k_) ?_
          show own_Go p e below T40 (mkF m 142 #[.val (.long p0), .second, .val (.long p1), .second, .val (.long p2), .second, .val (.int p3), .val (.long l1), .second, .val (.int (((p3.toUInt32 >>> ((2 : Int32) &&& 31).toUInt32).toInt32) &&& (3 : Int32))), .val (.long c1), .second, .val (.long r_33), .second, .val (.ref b34), .val (.double (FP.ddiv (FP.l2d c1) (FP.l2d l1))), .second, .val (.double (FP.ddiv (FP.l2d c1) (FP.l2d l1))), .second] [(.int (0 : Int32))]) _
          refine own_st (fun t_ k_ => XS.ifYes X40.here hx rfl (pc0 := 142) (pc' := 147) rfl (hb hby at_142) rfl (by decide) (by decide) (by decide) k_) ?_
          show own_Go p e below T40 (mkF m 147 #[.val (.long p0), .second, .val (.long p1), .second, .val (.long p2), .second, .val (.int p3), .val (.long l1), .second, .val (.int (((p3.toUInt32 >>> ((2 : Int32) &&& 31).toUInt32).toInt32) &&& (3 : Int32))), .val (.long c1), .second, .val (.long r_33), .second, .val (.ref b34), .val (.double (FP.ddiv (FP.l2d c1) (FP.l2d l1))), .second, .val (.double (FP.ddiv (FP.l2d c1) (FP.l2d l1))), .second] []) _
          refine own_st (fun t_ k_ => XS.dload X40.here hx rfl (hb hby at_147) rfl k_) ?_
          show own_Go p e below T40 (mkF m 149 #[.val (.long p0), .second, .val (.long p1), .second, .val (.long p2), .second, .val (.int p3), .val (.long l1), .second, .val (.int (((p3.toUInt32 >>> ((2 : Int32) &&& 31).toUInt32).toInt32) &&& (3 : Int32))), .val (.long c1), .second, .val (.long r_33), .second, .val (.ref b34), .val (.double (FP.ddiv (FP.l2d c1) (FP.l2d l1))), .second, .val (.double (FP.ddiv (FP.l2d c1) (FP.l2d l1))), .second] [(.double (FP.ddiv (FP.l2d c1) (FP.l2d l1)))]) _
          refine own_st (fun t_ k_ => XS.dconst0 X40.here hx rfl (hb hby at_149) rfl k_) ?_
          show own_Go p e below T40 (mkF m 150 #[.val (.long p0), .second, .val (.long p1), .second, .val (.long p2), .second, .val (.int p3), .val (.long l1), .second, .val (.int (((p3.toUInt32 >>> ((2 : Int32) &&& 31).toUInt32).toInt32) &&& (3 : Int32))), .val (.long c1), .second, .val (.long r_33), .second, .val (.ref b34), .val (.double (FP.ddiv (FP.l2d c1) (FP.l2d l1))), .second, .val (.double (FP.ddiv (FP.l2d c1) (FP.l2d l1))), .second] [(.double FP.dconst0), (.double (FP.ddiv (FP.l2d c1) (FP.l2d l1)))]) _
          refine own_st (fun t_ k_ => XS.dcmpS X40.here hx rfl (hb hby at_150) rfl rfl k_) ?_
          show own_Go p e below T40 (mkF m 151 #[.val (.long p0), .second, .val (.long p1), .second, .val (.long p2), .second, .val (.int p3), .val (.long l1), .second, .val (.int (((p3.toUInt32 >>> ((2 : Int32) &&& 31).toUInt32).toInt32) &&& (3 : Int32))), .val (.long c1), .second, .val (.long r_33), .second, .val (.ref b34), .val (.double (FP.ddiv (FP.l2d c1) (FP.l2d l1))), .second, .val (.double (FP.ddiv (FP.l2d c1) (FP.l2d l1))), .second] [(.int (cmpValue (FP.dcmp (FP.ddiv (FP.l2d c1) (FP.l2d l1)) FP.dconst0) .l))]) _
          refine own_st (fun t_ k_ => XS.ifNo X40.here hx rfl (hb hby at_151) rfl ((if0 _ _).trans (flt (own_q_ge0 hc0 htp)).1) k_) ?_
          show own_Go p e below T40 (mkF m 154 #[.val (.long p0), .second, .val (.long p1), .second, .val (.long p2), .second, .val (.int p3), .val (.long l1), .second, .val (.int (((p3.toUInt32 >>> ((2 : Int32) &&& 31).toUInt32).toInt32) &&& (3 : Int32))), .val (.long c1), .second, .val (.long r_33), .second, .val (.ref b34), .val (.double (FP.ddiv (FP.l2d c1) (FP.l2d l1))), .second, .val (.double (FP.ddiv (FP.l2d c1) (FP.l2d l1))), .second] []) _
          refine own_st (fun t_ k_ => XS.dload X40.here hx rfl (hb hby at_154) rfl k_) ?_
          show own_Go p e below T40 (mkF m 156 #[.val (.long p0), .second, .val (.long p1), .second, .val (.long p2), .second, .val (.int p3), .val (.long l1), .second, .val (.int (((p3.toUInt32 >>> ((2 : Int32) &&& 31).toUInt32).toInt32) &&& (3 : Int32))), .val (.long c1), .second, .val (.long r_33), .second, .val (.ref b34), .val (.double (FP.ddiv (FP.l2d c1) (FP.l2d l1))), .second, .val (.double (FP.ddiv (FP.l2d c1) (FP.l2d l1))), .second] [(.double (FP.ddiv (FP.l2d c1) (FP.l2d l1)))]) _
          refine own_st (fun t_ k_ => XS.dconst1 X40.here hx rfl (hb hby at_156) rfl k_) ?_
          show own_Go p e below T40 (mkF m 157 #[.val (.long p0), .second, .val (.long p1), .second, .val (.long p2), .second, .val (.int p3), .val (.long l1), .second, .val (.int (((p3.toUInt32 >>> ((2 : Int32) &&& 31).toUInt32).toInt32) &&& (3 : Int32))), .val (.long c1), .second, .val (.long r_33), .second, .val (.ref b34), .val (.double (FP.ddiv (FP.l2d c1) (FP.l2d l1))), .second, .val (.double (FP.ddiv (FP.l2d c1) (FP.l2d l1))), .second] [(.double FP.dconst1), (.double (FP.ddiv (FP.l2d c1) (FP.l2d l1)))]) _
          refine own_st (fun t_ k_ => XS.dcmpS X40.here hx rfl (hb hby at_157) rfl rfl k_) ?_
          show own_Go p e below T40 (mkF m 158 #[.val (.long p0), .second, .val (.long p1), .second, .val (.long p2), .second, .val (.int p3), .val (.long l1), .second, .val (.int (((p3.toUInt32 >>> ((2 : Int32) &&& 31).toUInt32).toInt32) &&& (3 : Int32))), .val (.long c1), .second, .val (.long r_33), .second, .val (.ref b34), .val (.double (FP.ddiv (FP.l2d c1) (FP.l2d l1))), .second, .val (.double (FP.ddiv (FP.l2d c1) (FP.l2d l1))), .second] [(.int (cmpValue (FP.dcmp (FP.ddiv (FP.l2d c1) (FP.l2d l1)) FP.dconst1) .g))]) _
          refine own_st (fun t_ k_ => XS.ifYes X40.here hx rfl (pc0 := 158) (pc' := 163) rfl (hb hby at_158) rfl ((if0 _ _).trans (flt (own_q_le1 hc0 hct htp)).2.2.2) (by decide) (by decide) k_) ?_
          show own_Go p e below T40 (mkF m 163 #[.val (.long p0), .second, .val (.long p1), .second, .val (.long p2), .second, .val (.int p3), .val (.long l1), .second, .val (.int (((p3.toUInt32 >>> ((2 : Int32) &&& 31).toUInt32).toInt32) &&& (3 : Int32))), .val (.long c1), .second, .val (.long r_33), .second, .val (.ref b34), .val (.double (FP.ddiv (FP.l2d c1) (FP.l2d l1))), .second, .val (.double (FP.ddiv (FP.l2d c1) (FP.l2d l1))), .second] []) _
          by_cases hz1 : lcmpW c1 (0 : Int64) = (0 : Int32)
          · skip
            refine own_st (fun t_ k_ => XS.dload X40.here hx rfl (hb hby at_163) rfl k_) ?_
            show own_Go p e below T40 (mkF m 165 #[.val (.long p0), .second, .val (.long p1), .second, .val (.long p2), .second, .val (.int p3), .val (.long l1), .second, .val (.int (((p3.toUInt32 >>> ((2 : Int32) &&& 31).toUInt32).toInt32) &&& (3 : Int32))), .val (.long c1), .second, .val (.long r_33), .second, .val (.ref b34), .val (.double (FP.ddiv (FP.l2d c1) (FP.l2d l1))), .second, .val (.double (FP.ddiv (FP.l2d c1) (FP.l2d l1))), .second] [(.double (FP.ddiv (FP.l2d c1) (FP.l2d l1)))]) _
            refine own_st (fun t_ k_ => XS.dconst0 X40.here hx rfl (hb hby at_165) rfl k_) ?_
            show own_Go p e below T40 (mkF m 166 #[.val (.long p0), .second, .val (.long p1), .second, .val (.long p2), .second, .val (.int p3), .val (.long l1), .second, .val (.int (((p3.toUInt32 >>> ((2 : Int32) &&& 31).toUInt32).toInt32) &&& (3 : Int32))), .val (.long c1), .second, .val (.long r_33), .second, .val (.ref b34), .val (.double (FP.ddiv (FP.l2d c1) (FP.l2d l1))), .second, .val (.double (FP.ddiv (FP.l2d c1) (FP.l2d l1))), .second] [(.double FP.dconst0), (.double (FP.ddiv (FP.l2d c1) (FP.l2d l1)))]) _
            refine own_st (fun t_ k_ => XS.dcmpS X40.here hx rfl (hb hby at_166) rfl (own_q_eq0 hz1 htp) k_) ?_
            show own_Go p e below T40 (mkF m 167 #[.val (.long p0), .second, .val (.long p1), .second, .val (.long p2), .second, .val (.int p3), .val (.long l1), .second, .val (.int (((p3.toUInt32 >>> ((2 : Int32) &&& 31).toUInt32).toInt32) &&& (3 : Int32))), .val (.long c1), .second, .val (.long r_33), .second, .val (.ref b34), .val (.double (FP.ddiv (FP.l2d c1) (FP.l2d l1))), .second, .val (.double (FP.ddiv (FP.l2d c1) (FP.l2d l1))), .second] [(.int (0 : Int32))]) _
            refine own_st (fun t_ k_ => XS.ifNo X40.here hx rfl (hb hby at_167) rfl (by decide) k_) ?_
            show own_Go p e below T40 (mkF m 170 #[.val (.long p0), .second, .val (.long p1), .second, .val (.long p2), .second, .val (.int p3), .val (.long l1), .second, .val (.int (((p3.toUInt32 >>> ((2 : Int32) &&& 31).toUInt32).toInt32) &&& (3 : Int32))), .val (.long c1), .second, .val (.long r_33), .second, .val (.ref b34), .val (.double (FP.ddiv (FP.l2d c1) (FP.l2d l1))), .second, .val (.double (FP.ddiv (FP.l2d c1) (FP.l2d l1))), .second] []) _
            refine own_st (fun t_ k_ => XS.iconst X40.here hx rfl (hb hby at_170) k_) ?_
            show own_Go p e below T40 (mkF m 171 #[.val (.long p0), .second, .val (.long p1), .second, .val (.long p2), .second, .val (.int p3), .val (.long l1), .second, .val (.int (((p3.toUInt32 >>> ((2 : Int32) &&& 31).toUInt32).toInt32) &&& (3 : Int32))), .val (.long c1), .second, .val (.long r_33), .second, .val (.ref b34), .val (.double (FP.ddiv (FP.l2d c1) (FP.l2d l1))), .second, .val (.double (FP.ddiv (FP.l2d c1) (FP.l2d l1))), .second] [(.int (1 : Int32))]) _
            refine own_st (fun t_ k_ => XS.goto X40.here hx rfl (pc0 := 171) (pc' := 175) rfl (hb hby at_171) (by decide) (by decide) k_) ?_
            show own_Go p e below T40 (mkF m 175 #[.val (.long p0), .second, .val (.long p1), .second, .val (.long p2), .second, .val (.int p3), .val (.long l1), .second, .val (.int (((p3.toUInt32 >>> ((2 : Int32) &&& 31).toUInt32).toInt32) &&& (3 : Int32))), .val (.long c1), .second, .val (.long r_33), .second, .val (.ref b34), .val (.double (FP.ddiv (FP.l2d c1) (FP.l2d l1))), .second, .val (.double (FP.ddiv (FP.l2d c1) (FP.l2d l1))), .second] [(.int (1 : Int32))]) _
            refine own_st (fun t_ k_ => XS.lload X40.here hx rfl (hb hby at_175) rfl k_) ?_
            show own_Go p e below T40 (mkF m 177 #[.val (.long p0), .second, .val (.long p1), .second, .val (.long p2), .second, .val (.int p3), .val (.long l1), .second, .val (.int (((p3.toUInt32 >>> ((2 : Int32) &&& 31).toUInt32).toInt32) &&& (3 : Int32))), .val (.long c1), .second, .val (.long r_33), .second, .val (.ref b34), .val (.double (FP.ddiv (FP.l2d c1) (FP.l2d l1))), .second, .val (.double (FP.ddiv (FP.l2d c1) (FP.l2d l1))), .second] [(.long c1), (.int (1 : Int32))]) _
            refine own_st (fun t_ k_ => XS.lconst X40.here hx rfl (hb hby at_177) k_) ?_
            show own_Go p e below T40 (mkF m 178 #[.val (.long p0), .second, .val (.long p1), .second, .val (.long p2), .second, .val (.int p3), .val (.long l1), .second, .val (.int (((p3.toUInt32 >>> ((2 : Int32) &&& 31).toUInt32).toInt32) &&& (3 : Int32))), .val (.long c1), .second, .val (.long r_33), .second, .val (.ref b34), .val (.double (FP.ddiv (FP.l2d c1) (FP.l2d l1))), .second, .val (.double (FP.ddiv (FP.l2d c1) (FP.l2d l1))), .second] [(.long (0 : Int64)), (.long c1), (.int (1 : Int32))]) _
            refine own_st (fun t_ k_ => XS.lcmp X40.here hx rfl (hb hby at_178) rfl k_) ?_
            show own_Go p e below T40 (mkF m 179 #[.val (.long p0), .second, .val (.long p1), .second, .val (.long p2), .second, .val (.int p3), .val (.long l1), .second, .val (.int (((p3.toUInt32 >>> ((2 : Int32) &&& 31).toUInt32).toInt32) &&& (3 : Int32))), .val (.long c1), .second, .val (.long r_33), .second, .val (.ref b34), .val (.double (FP.ddiv (FP.l2d c1) (FP.l2d l1))), .second, .val (.double (FP.ddiv (FP.l2d c1) (FP.l2d l1))), .second] [(.int (lcmpW c1 (0 : Int64))), (.int (1 : Int32))]) _
            refine own_st (fun t_ k_ => XS.ifNo X40.here hx rfl (hb hby at_179) rfl ((if0 _ _).trans (teq hz1).2) k_) ?_
            show own_Go p e below T40 (mkF m 182 #[.val (.long p0), .second, .val (.long p1), .second, .val (.long p2), .second, .val (.int p3), .val (.long l1), .second, .val (.int (((p3.toUInt32 >>> ((2 : Int32) &&& 31).toUInt32).toInt32) &&& (3 : Int32))), .val (.long c1), .second, .val (.long r_33), .second, .val (.ref b34), .val (.double (FP.ddiv (FP.l2d c1) (FP.l2d l1))), .second, .val (.double (FP.ddiv (FP.l2d c1) (FP.l2d l1))), .second] [(.int (1 : Int32))]) _
            refine own_st (fun t_ k_ => XS.iconst X40.here hx rfl (hb hby at_182) k_) ?_
            show own_Go p e below T40 (mkF m 183 #[.val (.long p0), .second, .val (.long p1), .second, .val (.long p2), .second, .val (.int p3), .val (.long l1), .second, .val (.int (((p3.toUInt32 >>> ((2 : Int32) &&& 31).toUInt32).toInt32) &&& (3 : Int32))), .val (.long c1), .second, .val (.long r_33), .second, .val (.ref b34), .val (.double (FP.ddiv (FP.l2d c1) (FP.l2d l1))), .second, .val (.double (FP.ddiv (FP.l2d c1) (FP.l2d l1))), .second] [(.int (1 : Int32)), (.int (1 : Int32))]) _
            refine own_st (fun t_ k_ => XS.goto X40.here hx rfl (pc0 := 183) (pc' := 187) rfl (hb hby at_183) (by decide) (by decide) k_) ?_
            show own_Go p e below T40 (mkF m 187 #[.val (.long p0), .second, .val (.long p1), .second, .val (.long p2), .second, .val (.int p3), .val (.long l1), .second, .val (.int (((p3.toUInt32 >>> ((2 : Int32) &&& 31).toUInt32).toInt32) &&& (3 : Int32))), .val (.long c1), .second, .val (.long r_33), .second, .val (.ref b34), .val (.double (FP.ddiv (FP.l2d c1) (FP.l2d l1))), .second, .val (.double (FP.ddiv (FP.l2d c1) (FP.l2d l1))), .second] [(.int (1 : Int32)), (.int (1 : Int32))]) _
            refine own_st (fun t_ k_ => XS.icmpYes X40.here hx rfl (pc0 := 187) (pc' := 192) rfl (hb hby at_187) rfl (by decide) (by decide) (by decide) k_) ?_
            show own_Go p e below T40 (mkF m 192 #[.val (.long p0), .second, .val (.long p1), .second, .val (.long p2), .second, .val (.int p3), .val (.long l1), .second, .val (.int (((p3.toUInt32 >>> ((2 : Int32) &&& 31).toUInt32).toInt32) &&& (3 : Int32))), .val (.long c1), .second, .val (.long r_33), .second, .val (.ref b34), .val (.double (FP.ddiv (FP.l2d c1) (FP.l2d l1))), .second, .val (.double (FP.ddiv (FP.l2d c1) (FP.l2d l1))), .second] []) _
            refine own_st (fun t_ k_ => XS.lload X40.here hx rfl (hb hby at_192) rfl k_) ?_
            show own_Go p e below T40 (mkF m 194 #[.val (.long p0), .second, .val (.long p1), .second, .val (.long p2), .second, .val (.int p3), .val (.long l1), .second, .val (.int (((p3.toUInt32 >>> ((2 : Int32) &&& 31).toUInt32).toInt32) &&& (3 : Int32))), .val (.long c1), .second, .val (.long r_33), .second, .val (.ref b34), .val (.double (FP.ddiv (FP.l2d c1) (FP.l2d l1))), .second, .val (.double (FP.ddiv (FP.l2d c1) (FP.l2d l1))), .second] [(.long c1)]) _
            refine own_st (fun t_ k_ => XS.lload X40.here hx rfl (hb hby at_194) rfl k_) ?_
            show own_Go p e below T40 (mkF m 196 #[.val (.long p0), .second, .val (.long p1), .second, .val (.long p2), .second, .val (.int p3), .val (.long l1), .second, .val (.int (((p3.toUInt32 >>> ((2 : Int32) &&& 31).toUInt32).toInt32) &&& (3 : Int32))), .val (.long c1), .second, .val (.long r_33), .second, .val (.ref b34), .val (.double (FP.ddiv (FP.l2d c1) (FP.l2d l1))), .second, .val (.double (FP.ddiv (FP.l2d c1) (FP.l2d l1))), .second] [(.long l1), (.long c1)]) _
            refine own_st (fun t_ k_ => XS.lcmp X40.here hx rfl (hb hby at_196) rfl k_) ?_
            show own_Go p e below T40 (mkF m 197 #[.val (.long p0), .second, .val (.long p1), .second, .val (.long p2), .second, .val (.int p3), .val (.long l1), .second, .val (.int (((p3.toUInt32 >>> ((2 : Int32) &&& 31).toUInt32).toInt32) &&& (3 : Int32))), .val (.long c1), .second, .val (.long r_33), .second, .val (.ref b34), .val (.double (FP.ddiv (FP.l2d c1) (FP.l2d l1))), .second, .val (.double (FP.ddiv (FP.l2d c1) (FP.l2d l1))), .second] [(.int (lcmpW c1 l1))]) _
            by_cases hz2 : (lcmpW c1 l1) = (0 : Int32)
            · skip
              refine own_st (fun t_ k_ => XS.ifNo X40.here hx rfl (hb hby at_197) rfl ((if0 _ _).trans (teq hz2).2) k_) ?_
              show own_Go p e below T40 (mkF m 200 #[.val (.long p0), .second, .val (.long p1), .second, .val (.long p2), .second, .val (.int p3), .val (.long l1), .second, .val (.int (((p3.toUInt32 >>> ((2 : Int32) &&& 31).toUInt32).toInt32) &&& (3 : Int32))), .val (.long c1), .second, .val (.long r_33), .second, .val (.ref b34), .val (.double (FP.ddiv (FP.l2d c1) (FP.l2d l1))), .second, .val (.double (FP.ddiv (FP.l2d c1) (FP.l2d l1))), .second] []) _
              refine own_st (fun t_ k_ => XS.dload X40.here hx rfl (hb hby at_200) rfl k_) ?_
              show own_Go p e below T40 (mkF m 202 #[.val (.long p0), .second, .val (.long p1), .second, .val (.long p2), .second, .val (.int p3), .val (.long l1), .second, .val (.int (((p3.toUInt32 >>> ((2 : Int32) &&& 31).toUInt32).toInt32) &&& (3 : Int32))), .val (.long c1), .second, .val (.long r_33), .second, .val (.ref b34), .val (.double (FP.ddiv (FP.l2d c1) (FP.l2d l1))), .second, .val (.double (FP.ddiv (FP.l2d c1) (FP.l2d l1))), .second] [(.double (FP.ddiv (FP.l2d c1) (FP.l2d l1)))]) _
              refine own_st (fun t_ k_ => XS.dconst1 X40.here hx rfl (hb hby at_202) rfl k_) ?_
              show own_Go p e below T40 (mkF m 203 #[.val (.long p0), .second, .val (.long p1), .second, .val (.long p2), .second, .val (.int p3), .val (.long l1), .second, .val (.int (((p3.toUInt32 >>> ((2 : Int32) &&& 31).toUInt32).toInt32) &&& (3 : Int32))), .val (.long c1), .second, .val (.long r_33), .second, .val (.ref b34), .val (.double (FP.ddiv (FP.l2d c1) (FP.l2d l1))), .second, .val (.double (FP.ddiv (FP.l2d c1) (FP.l2d l1))), .second] [(.double FP.dconst1), (.double (FP.ddiv (FP.l2d c1) (FP.l2d l1)))]) _
              refine own_st (fun t_ k_ => XS.dcmpS X40.here hx rfl (hb hby at_203) rfl (own_q_eq1 hz2 htp) k_) ?_
              show own_Go p e below T40 (mkF m 204 #[.val (.long p0), .second, .val (.long p1), .second, .val (.long p2), .second, .val (.int p3), .val (.long l1), .second, .val (.int (((p3.toUInt32 >>> ((2 : Int32) &&& 31).toUInt32).toInt32) &&& (3 : Int32))), .val (.long c1), .second, .val (.long r_33), .second, .val (.ref b34), .val (.double (FP.ddiv (FP.l2d c1) (FP.l2d l1))), .second, .val (.double (FP.ddiv (FP.l2d c1) (FP.l2d l1))), .second] [(.int (0 : Int32))]) _
              refine own_st (fun t_ k_ => XS.ifYes X40.here hx rfl (pc0 := 204) (pc' := 209) rfl (hb hby at_204) rfl (by decide) (by decide) (by decide) k_) ?_
              show own_Go p e below T40 (mkF m 209 #[.val (.long p0), .second, .val (.long p1), .second, .val (.long p2), .second, .val (.int p3), .val (.long l1), .second, .val (.int (((p3.toUInt32 >>> ((2 : Int32) &&& 31).toUInt32).toInt32) &&& (3 : Int32))), .val (.long c1), .second, .val (.long r_33), .second, .val (.ref b34), .val (.double (FP.ddiv (FP.l2d c1) (FP.l2d l1))), .second, .val (.double (FP.ddiv (FP.l2d c1) (FP.l2d l1))), .second] []) _
              refine own_st (fun t_ k_ => XS.iconst X40.here hx rfl (hb hby at_209) k_) ?_
              show own_Go p e below T40 (mkF m 210 #[.val (.long p0), .second, .val (.long p1), .second, .val (.long p2), .second, .val (.int p3), .val (.long l1), .second, .val (.int (((p3.toUInt32 >>> ((2 : Int32) &&& 31).toUInt32).toInt32) &&& (3 : Int32))), .val (.long c1), .second, .val (.long r_33), .second, .val (.ref b34), .val (.double (FP.ddiv (FP.l2d c1) (FP.l2d l1))), .second, .val (.double (FP.ddiv (FP.l2d c1) (FP.l2d l1))), .second] [(.int (1 : Int32))]) _
              obtain ⟨fs, hr, hrun, hended, hW, hsame⟩ := X40.leave (v := some (.int (1 : Int32))) (fun h => by rw [Bd.returns] at h; cases h)
              refine own_fin (retN X40 hx (t := .boolean) Bd.returns (by simp) (hb hby at_210) hr) ⟨hrun, hended, _, _, rfl, ?_, ⟨_, rfl⟩, hW, hsame.mono (by decide) (by decide)⟩
              show Q_rmLaw Z p0 p1 p2 p3 h0 n0 _ T40.heap _
              rw [eH40]
              exact ⟨rfl, N40, K38⟩
            · skip
              refine own_st (fun t_ k_ => XS.ifYes X40.here hx rfl (pc0 := 197) (pc' := 209) rfl (hb hby at_197) rfl ((if0 _ _).trans (feq hz2).2) (by decide) (by decide) k_) ?_
              show own_Go p e below T40 (mkF m 209 #[.val (.long p0), .second, .val (.long p1), .second, .val (.long p2), .second, .val (.int p3), .val (.long l1), .second, .val (.int (((p3.toUInt32 >>> ((2 : Int32) &&& 31).toUInt32).toInt32) &&& (3 : Int32))), .val (.long c1), .second, .val (.long r_33), .second, .val (.ref b34), .val (.double (FP.ddiv (FP.l2d c1) (FP.l2d l1))), .second, .val (.double (FP.ddiv (FP.l2d c1) (FP.l2d l1))), .second] []) _
              refine own_st (fun t_ k_ => XS.iconst X40.here hx rfl (hb hby at_209) k_) ?_
              show own_Go p e below T40 (mkF m 210 #[.val (.long p0), .second, .val (.long p1), .second, .val (.long p2), .second, .val (.int p3), .val (.long l1), .second, .val (.int (((p3.toUInt32 >>> ((2 : Int32) &&& 31).toUInt32).toInt32) &&& (3 : Int32))), .val (.long c1), .second, .val (.long r_33), .second, .val (.ref b34), .val (.double (FP.ddiv (FP.l2d c1) (FP.l2d l1))), .second, .val (.double (FP.ddiv (FP.l2d c1) (FP.l2d l1))), .second] [(.int (1 : Int32))]) _
              obtain ⟨fs, hr, hrun, hended, hW, hsame⟩ := X40.leave (v := some (.int (1 : Int32))) (fun h => by rw [Bd.returns] at h; cases h)
              refine own_fin (retN X40 hx (t := .boolean) Bd.returns (by simp) (hb hby at_210) hr) ⟨hrun, hended, _, _, rfl, ?_, ⟨_, rfl⟩, hW, hsame.mono (by decide) (by decide)⟩
              show Q_rmLaw Z p0 p1 p2 p3 h0 n0 _ T40.heap _
              rw [eH40]
              exact ⟨rfl, N40, K38⟩
          · skip
            refine own_st (fun t_ k_ => XS.dload X40.here hx rfl (hb hby at_163) rfl k_) ?_
            show own_Go p e below T40 (mkF m 165 #[.val (.long p0), .second, .val (.long p1), .second, .val (.long p2), .second, .val (.int p3), .val (.long l1), .second, .val (.int (((p3.toUInt32 >>> ((2 : Int32) &&& 31).toUInt32).toInt32) &&& (3 : Int32))), .val (.long c1), .second, .val (.long r_33), .second, .val (.ref b34), .val (.double (FP.ddiv (FP.l2d c1) (FP.l2d l1))), .second, .val (.double (FP.ddiv (FP.l2d c1) (FP.l2d l1))), .second] [(.double (FP.ddiv (FP.l2d c1) (FP.l2d l1)))]) _
            refine own_st (fun t_ k_ => XS.dconst0 X40.here hx rfl (hb hby at_165) rfl k_) ?_
            show own_Go p e below T40 (mkF m 166 #[.val (.long p0), .second, .val (.long p1), .second, .val (.long p2), .second, .val (.int p3), .val (.long l1), .second, .val (.int (((p3.toUInt32 >>> ((2 : Int32) &&& 31).toUInt32).toInt32) &&& (3 : Int32))), .val (.long c1), .second, .val (.long r_33), .second, .val (.ref b34), .val (.double (FP.ddiv (FP.l2d c1) (FP.l2d l1))), .second, .val (.double (FP.ddiv (FP.l2d c1) (FP.l2d l1))), .second] [(.double FP.dconst0), (.double (FP.ddiv (FP.l2d c1) (FP.l2d l1)))]) _
            refine own_st (fun t_ k_ => XS.dcmpS X40.here hx rfl (hb hby at_166) rfl (own_q_gt0 (own_pos0 hc0 hz1) htp) k_) ?_
            show own_Go p e below T40 (mkF m 167 #[.val (.long p0), .second, .val (.long p1), .second, .val (.long p2), .second, .val (.int p3), .val (.long l1), .second, .val (.int (((p3.toUInt32 >>> ((2 : Int32) &&& 31).toUInt32).toInt32) &&& (3 : Int32))), .val (.long c1), .second, .val (.long r_33), .second, .val (.ref b34), .val (.double (FP.ddiv (FP.l2d c1) (FP.l2d l1))), .second, .val (.double (FP.ddiv (FP.l2d c1) (FP.l2d l1))), .second] [(.int (1 : Int32))]) _
            refine own_st (fun t_ k_ => XS.ifYes X40.here hx rfl (pc0 := 167) (pc' := 174) rfl (hb hby at_167) rfl (by decide) (by decide) (by decide) k_) ?_
            show own_Go p e below T40 (mkF m 174 #[.val (.long p0), .second, .val (.long p1), .second, .val (.long p2), .second, .val (.int p3), .val (.long l1), .second, .val (.int (((p3.toUInt32 >>> ((2 : Int32) &&& 31).toUInt32).toInt32) &&& (3 : Int32))), .val (.long c1), .second, .val (.long r_33), .second, .val (.ref b34), .val (.double (FP.ddiv (FP.l2d c1) (FP.l2d l1))), .second, .val (.double (FP.ddiv (FP.l2d c1) (FP.l2d l1))), .second] []) _
            refine own_st (fun t_ k_ => XS.iconst X40.here hx rfl (hb hby at_174) k_) ?_
            show own_Go p e below T40 (mkF m 175 #[.val (.long p0), .second, .val (.long p1), .second, .val (.long p2), .second, .val (.int p3), .val (.long l1), .second, .val (.int (((p3.toUInt32 >>> ((2 : Int32) &&& 31).toUInt32).toInt32) &&& (3 : Int32))), .val (.long c1), .second, .val (.long r_33), .second, .val (.ref b34), .val (.double (FP.ddiv (FP.l2d c1) (FP.l2d l1))), .second, .val (.double (FP.ddiv (FP.l2d c1) (FP.l2d l1))), .second] [(.int (0 : Int32))]) _
            refine own_st (fun t_ k_ => XS.lload X40.here hx rfl (hb hby at_175) rfl k_) ?_
            show own_Go p e below T40 (mkF m 177 #[.val (.long p0), .second, .val (.long p1), .second, .val (.long p2), .second, .val (.int p3), .val (.long l1), .second, .val (.int (((p3.toUInt32 >>> ((2 : Int32) &&& 31).toUInt32).toInt32) &&& (3 : Int32))), .val (.long c1), .second, .val (.long r_33), .second, .val (.ref b34), .val (.double (FP.ddiv (FP.l2d c1) (FP.l2d l1))), .second, .val (.double (FP.ddiv (FP.l2d c1) (FP.l2d l1))), .second] [(.long c1), (.int (0 : Int32))]) _
            refine own_st (fun t_ k_ => XS.lconst X40.here hx rfl (hb hby at_177) k_) ?_
            show own_Go p e below T40 (mkF m 178 #[.val (.long p0), .second, .val (.long p1), .second, .val (.long p2), .second, .val (.int p3), .val (.long l1), .second, .val (.int (((p3.toUInt32 >>> ((2 : Int32) &&& 31).toUInt32).toInt32) &&& (3 : Int32))), .val (.long c1), .second, .val (.long r_33), .second, .val (.ref b34), .val (.double (FP.ddiv (FP.l2d c1) (FP.l2d l1))), .second, .val (.double (FP.ddiv (FP.l2d c1) (FP.l2d l1))), .second] [(.long (0 : Int64)), (.long c1), (.int (0 : Int32))]) _
            refine own_st (fun t_ k_ => XS.lcmp X40.here hx rfl (hb hby at_178) rfl k_) ?_
            show own_Go p e below T40 (mkF m 179 #[.val (.long p0), .second, .val (.long p1), .second, .val (.long p2), .second, .val (.int p3), .val (.long l1), .second, .val (.int (((p3.toUInt32 >>> ((2 : Int32) &&& 31).toUInt32).toInt32) &&& (3 : Int32))), .val (.long c1), .second, .val (.long r_33), .second, .val (.ref b34), .val (.double (FP.ddiv (FP.l2d c1) (FP.l2d l1))), .second, .val (.double (FP.ddiv (FP.l2d c1) (FP.l2d l1))), .second] [(.int (lcmpW c1 (0 : Int64))), (.int (0 : Int32))]) _
            refine own_st (fun t_ k_ => XS.ifYes X40.here hx rfl (pc0 := 179) (pc' := 186) rfl (hb hby at_179) rfl ((if0 _ _).trans (feq hz1).2) (by decide) (by decide) k_) ?_
            show own_Go p e below T40 (mkF m 186 #[.val (.long p0), .second, .val (.long p1), .second, .val (.long p2), .second, .val (.int p3), .val (.long l1), .second, .val (.int (((p3.toUInt32 >>> ((2 : Int32) &&& 31).toUInt32).toInt32) &&& (3 : Int32))), .val (.long c1), .second, .val (.long r_33), .second, .val (.ref b34), .val (.double (FP.ddiv (FP.l2d c1) (FP.l2d l1))), .second, .val (.double (FP.ddiv (FP.l2d c1) (FP.l2d l1))), .second] [(.int (0 : Int32))]) _
            refine own_st (fun t_ k_ => XS.iconst X40.here hx rfl (hb hby at_186) k_) ?_
            show own_Go p e below T40 (mkF m 187 #[.val (.long p0), .second, .val (.long p1), .second, .val (.long p2), .second, .val (.int p3), .val (.long l1), .second, .val (.int (((p3.toUInt32 >>> ((2 : Int32) &&& 31).toUInt32).toInt32) &&& (3 : Int32))), .val (.long c1), .second, .val (.long r_33), .second, .val (.ref b34), .val (.double (FP.ddiv (FP.l2d c1) (FP.l2d l1))), .second, .val (.double (FP.ddiv (FP.l2d c1) (FP.l2d l1))), .second] [(.int (0 : Int32)), (.int (0 : Int32))]) _
            refine own_st (fun t_ k_ => XS.icmpYes X40.here hx rfl (pc0 := 187) (pc' := 192) rfl (hb hby at_187) rfl (by decide) (by decide) (by decide) k_) ?_
            show own_Go p e below T40 (mkF m 192 #[.val (.long p0), .second, .val (.long p1), .second, .val (.long p2), .second, .val (.int p3), .val (.long l1), .second, .val (.int (((p3.toUInt32 >>> ((2 : Int32) &&& 31).toUInt32).toInt32) &&& (3 : Int32))), .val (.long c1), .second, .val (.long r_33), .second, .val (.ref b34), .val (.double (FP.ddiv (FP.l2d c1) (FP.l2d l1))), .second, .val (.double (FP.ddiv (FP.l2d c1) (FP.l2d l1))), .second] []) _
            refine own_st (fun t_ k_ => XS.lload X40.here hx rfl (hb hby at_192) rfl k_) ?_
            show own_Go p e below T40 (mkF m 194 #[.val (.long p0), .second, .val (.long p1), .second, .val (.long p2), .second, .val (.int p3), .val (.long l1), .second, .val (.int (((p3.toUInt32 >>> ((2 : Int32) &&& 31).toUInt32).toInt32) &&& (3 : Int32))), .val (.long c1), .second, .val (.long r_33), .second, .val (.ref b34), .val (.double (FP.ddiv (FP.l2d c1) (FP.l2d l1))), .second, .val (.double (FP.ddiv (FP.l2d c1) (FP.l2d l1))), .second] [(.long c1)]) _
            refine own_st (fun t_ k_ => XS.lload X40.here hx rfl (hb hby at_194) rfl k_) ?_
            show own_Go p e below T40 (mkF m 196 #[.val (.long p0), .second, .val (.long p1), .second, .val (.long p2), .second, .val (.int p3), .val (.long l1), .second, .val (.int (((p3.toUInt32 >>> ((2 : Int32) &&& 31).toUInt32).toInt32) &&& (3 : Int32))), .val (.long c1), .second, .val (.long r_33), .second, .val (.ref b34), .val (.double (FP.ddiv (FP.l2d c1) (FP.l2d l1))), .second, .val (.double (FP.ddiv (FP.l2d c1) (FP.l2d l1))), .second] [(.long l1), (.long c1)]) _
            refine own_st (fun t_ k_ => XS.lcmp X40.here hx rfl (hb hby at_196) rfl k_) ?_
            show own_Go p e below T40 (mkF m 197 #[.val (.long p0), .second, .val (.long p1), .second, .val (.long p2), .second, .val (.int p3), .val (.long l1), .second, .val (.int (((p3.toUInt32 >>> ((2 : Int32) &&& 31).toUInt32).toInt32) &&& (3 : Int32))), .val (.long c1), .second, .val (.long r_33), .second, .val (.ref b34), .val (.double (FP.ddiv (FP.l2d c1) (FP.l2d l1))), .second, .val (.double (FP.ddiv (FP.l2d c1) (FP.l2d l1))), .second] [(.int (lcmpW c1 l1))]) _
            by_cases hz2 : (lcmpW c1 l1) = (0 : Int32)
            · skip
              refine own_st (fun t_ k_ => XS.ifNo X40.here hx rfl (hb hby at_197) rfl ((if0 _ _).trans (teq hz2).2) k_) ?_
              show own_Go p e below T40 (mkF m 200 #[.val (.long p0), .second, .val (.long p1), .second, .val (.long p2), .second, .val (.int p3), .val (.long l1), .second, .val (.int (((p3.toUInt32 >>> ((2 : Int32) &&& 31).toUInt32).toInt32) &&& (3 : Int32))), .val (.long c1), .second, .val (.long r_33), .second, .val (.ref b34), .val (.double (FP.ddiv (FP.l2d c1) (FP.l2d l1))), .second, .val (.double (FP.ddiv (FP.l2d c1) (FP.l2d l1))), .second] []) _
              refine own_st (fun t_ k_ => XS.dload X40.here hx rfl (hb hby at_200) rfl k_) ?_
              show own_Go p e below T40 (mkF m 202 #[.val (.long p0), .second, .val (.long p1), .second, .val (.long p2), .second, .val (.int p3), .val (.long l1), .second, .val (.int (((p3.toUInt32 >>> ((2 : Int32) &&& 31).toUInt32).toInt32) &&& (3 : Int32))), .val (.long c1), .second, .val (.long r_33), .second, .val (.ref b34), .val (.double (FP.ddiv (FP.l2d c1) (FP.l2d l1))), .second, .val (.double (FP.ddiv (FP.l2d c1) (FP.l2d l1))), .second] [(.double (FP.ddiv (FP.l2d c1) (FP.l2d l1)))]) _
              refine own_st (fun t_ k_ => XS.dconst1 X40.here hx rfl (hb hby at_202) rfl k_) ?_
              show own_Go p e below T40 (mkF m 203 #[.val (.long p0), .second, .val (.long p1), .second, .val (.long p2), .second, .val (.int p3), .val (.long l1), .second, .val (.int (((p3.toUInt32 >>> ((2 : Int32) &&& 31).toUInt32).toInt32) &&& (3 : Int32))), .val (.long c1), .second, .val (.long r_33), .second, .val (.ref b34), .val (.double (FP.ddiv (FP.l2d c1) (FP.l2d l1))), .second, .val (.double (FP.ddiv (FP.l2d c1) (FP.l2d l1))), .second] [(.double FP.dconst1), (.double (FP.ddiv (FP.l2d c1) (FP.l2d l1)))]) _
              refine own_st (fun t_ k_ => XS.dcmpS X40.here hx rfl (hb hby at_203) rfl (own_q_eq1 hz2 htp) k_) ?_
              show own_Go p e below T40 (mkF m 204 #[.val (.long p0), .second, .val (.long p1), .second, .val (.long p2), .second, .val (.int p3), .val (.long l1), .second, .val (.int (((p3.toUInt32 >>> ((2 : Int32) &&& 31).toUInt32).toInt32) &&& (3 : Int32))), .val (.long c1), .second, .val (.long r_33), .second, .val (.ref b34), .val (.double (FP.ddiv (FP.l2d c1) (FP.l2d l1))), .second, .val (.double (FP.ddiv (FP.l2d c1) (FP.l2d l1))), .second] [(.int (0 : Int32))]) _
              refine own_st (fun t_ k_ => XS.ifYes X40.here hx rfl (pc0 := 204) (pc' := 209) rfl (hb hby at_204) rfl (by decide) (by decide) (by decide) k_) ?_
              show own_Go p e below T40 (mkF m 209 #[.val (.long p0), .second, .val (.long p1), .second, .val (.long p2), .second, .val (.int p3), .val (.long l1), .second, .val (.int (((p3.toUInt32 >>> ((2 : Int32) &&& 31).toUInt32).toInt32) &&& (3 : Int32))), .val (.long c1), .second, .val (.long r_33), .second, .val (.ref b34), .val (.double (FP.ddiv (FP.l2d c1) (FP.l2d l1))), .second, .val (.double (FP.ddiv (FP.l2d c1) (FP.l2d l1))), .second] []) _
              refine own_st (fun t_ k_ => XS.iconst X40.here hx rfl (hb hby at_209) k_) ?_
              show own_Go p e below T40 (mkF m 210 #[.val (.long p0), .second, .val (.long p1), .second, .val (.long p2), .second, .val (.int p3), .val (.long l1), .second, .val (.int (((p3.toUInt32 >>> ((2 : Int32) &&& 31).toUInt32).toInt32) &&& (3 : Int32))), .val (.long c1), .second, .val (.long r_33), .second, .val (.ref b34), .val (.double (FP.ddiv (FP.l2d c1) (FP.l2d l1))), .second, .val (.double (FP.ddiv (FP.l2d c1) (FP.l2d l1))), .second] [(.int (1 : Int32))]) _
              obtain ⟨fs, hr, hrun, hended, hW, hsame⟩ := X40.leave (v := some (.int (1 : Int32))) (fun h => by rw [Bd.returns] at h; cases h)
              refine own_fin (retN X40 hx (t := .boolean) Bd.returns (by simp) (hb hby at_210) hr) ⟨hrun, hended, _, _, rfl, ?_, ⟨_, rfl⟩, hW, hsame.mono (by decide) (by decide)⟩
              show Q_rmLaw Z p0 p1 p2 p3 h0 n0 _ T40.heap _
              rw [eH40]
              exact ⟨rfl, N40, K38⟩
            · skip
              refine own_st (fun t_ k_ => XS.ifYes X40.here hx rfl (pc0 := 197) (pc' := 209) rfl (hb hby at_197) rfl ((if0 _ _).trans (feq hz2).2) (by decide) (by decide) k_) ?_
              show own_Go p e below T40 (mkF m 209 #[.val (.long p0), .second, .val (.long p1), .second, .val (.long p2), .second, .val (.int p3), .val (.long l1), .second, .val (.int (((p3.toUInt32 >>> ((2 : Int32) &&& 31).toUInt32).toInt32) &&& (3 : Int32))), .val (.long c1), .second, .val (.long r_33), .second, .val (.ref b34), .val (.double (FP.ddiv (FP.l2d c1) (FP.l2d l1))), .second, .val (.double (FP.ddiv (FP.l2d c1) (FP.l2d l1))), .second] []) _
              refine own_st (fun t_ k_ => XS.iconst X40.here hx rfl (hb hby at_209) k_) ?_
              show own_Go p e below T40 (mkF m 210 #[.val (.long p0), .second, .val (.long p1), .second, .val (.long p2), .second, .val (.int p3), .val (.long l1), .second, .val (.int (((p3.toUInt32 >>> ((2 : Int32) &&& 31).toUInt32).toInt32) &&& (3 : Int32))), .val (.long c1), .second, .val (.long r_33), .second, .val (.ref b34), .val (.double (FP.ddiv (FP.l2d c1) (FP.l2d l1))), .second, .val (.double (FP.ddiv (FP.l2d c1) (FP.l2d l1))), .second] [(.int (1 : Int32))]) _
              obtain ⟨fs, hr, hrun, hended, hW, hsame⟩ := X40.leave (v := some (.int (1 : Int32))) (fun h => by rw [Bd.returns] at h; cases h)
              refine own_fin (retN X40 hx (t := .boolean) Bd.returns (by simp) (hb hby at_210) hr) ⟨hrun, hended, _, _, rfl, ?_, ⟨_, rfl⟩, hW, hsame.mono (by decide) (by decide)⟩
              show Q_rmLaw Z p0 p1 p2 p3 h0 n0 _ T40.heap _
              rw [eH40]
              exact ⟨rfl, N40, K38⟩
set_option maxRecDepth 65536 in
set_option maxHeartbeats 40000000 in
theorem comes_1 {Post : Tables → Env → Array Value → State → Outcome → State → Prop} (hpost : ∀ tb e args s v u, (limb_1_1.after args s (.returned v) u = true ∧ limb_1_2.after args s (.returned v) u = true ∧ True) → FrameEnd s (.returned v) u (Jvm.fieldLocs frame_1_writes args s ++ Jvm.arrayLocs frame_1_arrays args s ++ Jvm.staticLocs frame_1_statics s) 16 128 → Post tb e args s (.returned v) u) :
    ArmFor flags0 classFile x code maxLocals ret World_1 tables_1 room_1 Calls_1 rest_1 Pre_1 Post := by
  intro l hfl _ _ p e ha hc hk s m args below hf hA hF happ hP
  obtain ⟨hcalls, hrest, hpre⟩ := hP
  obtain ⟨-, -, -, hnamed, -, -, -, hat⟩ := (Spec.applies_iff hf).mp happ
  obtain ⟨hg, hn⟩ := and_e (Cond.before_iff.mp (show (Jvm.Cond.and given_1 narrow_1).before args s = true from hpre))
  obtain ⟨hc0, hg0⟩ := and_e hg
  obtain ⟨ga0, hg1⟩ := and_e hg0
  obtain ⟨ga1, hg2⟩ := and_e hg1
  obtain ⟨ga2, hg3⟩ := and_e hg2
  have ga3 := hg3
  obtain ⟨w0, w1, w2, w3, rfl⟩ : ∃ w0 w1 w2 w3 : Value, args = #[w0, w1, w2, w3] := by
    have hs : args.size = 4 := by simpa [Cond.value, given_1] using hc0
    obtain ⟨L⟩ := args
    match L, hs with
    | [w0, w1, w2, w3], _ => exact ⟨w0, w1, w2, w3, rfl⟩
  have hw := fun d (hd : d ∈ tables_1) => atoms_spec (ws := Jvm.Cond.code x code maxLocals ret :: tables_1) hat d (List.mem_cons_of_mem _ hd)
  have hfit : Fit s := fun {y c} hc i hi => by
    obtain ⟨ha, rfl⟩ := Array.getElem?_eq_some_iff.mp hc
    have q := List.all_eq_true.mp ((Array.all_eq_true_iff_forall_mem.mp hF) _ (Array.getElem_mem ha)) i (List.mem_range.mpr hi)
    simpa [Array.getElem?_eq_getElem hi] using q
  obtain ⟨i0, ei0⟩ := isL_v ga0
  obtain rfl : w0 = (.long i0) := Option.some.inj ei0
  obtain ⟨i1, ei1⟩ := isL_v ga1
  obtain rfl : w1 = (.long i1) := Option.some.inj ei1
  obtain ⟨i2, ei2⟩ := isL_v ga2
  obtain rfl : w2 = (.long i2) := Option.some.inj ei2
  obtain ⟨i3, ei3⟩ := is_v ga3
  obtain rfl : w3 = (.int i3) := Option.some.inj ei3
  obtain ⟨n, o, h1, h2, h3, _, L, rfl, ⟨rfl, N, -⟩, hq⟩ := rmLaw l s _ hw tables_1 i0 i1 i2 i3 s.heap s.heap.size (Nat.le_refl _)  p e ha hc hk s m _ below hf ((Spec.applies_iff_loose hf).mp happ).1 ⟨rfl, State.Warmed39.refl s, rfl⟩ trivial
  refine ⟨n, _, h1, h2, h3, hpost _ _ _ _ _ _ ⟨Cond.after_iff.mpr rfl, Cond.after_iff.mpr (eq_i res_at (Term.int_eval (1)) rfl), trivial⟩ ⟨hq.1, hq.2.1, (hq.2.2.sift fun y hy => Or.inr (N y hy)).mono (by decide) (by decide)⟩⟩
theorem main_1_1 : Claimed_1_1 := comes_1 fun _ _ _ _ _ _ h hF => ⟨h.1, hF⟩
theorem main_1_2 : Claimed_1_2 := comes_1 fun _ _ _ _ _ _ h hF => ⟨h.2.1, hF⟩
end Jvm.Pilot.@@N@@
namespace Jvm.Pilot.@@N@@
open Jvm Jvm.ClassFile Sem Op Lib Jvm.Free Jvm.Stand Jvm.Pilot.@@N@@.Jvm.D
/-! MADE BY PROGRAM (witnessworld.py) out of the Statement's table words and the real class files: 11 classes; the members and pool entries that the words name. The judged class is class 1, her method 1. -/
namespace start1
open Jvm.ClassFile
def u (s : String) : CpInfo := .utf8 (stringToUtf16 s)
/-- a pool by its gaps: so many unusable entries, then the entry; so many at the end -/
def gap : Nat → List CpInfo → List CpInfo
  | 0, r => r
  | n + 1, r => .unusable :: gap n r
def poolList (es : List (Nat × CpInfo)) (last : Nat) : List CpInfo := es.foldr (fun e r => gap e.1 (e.2 :: r)) (gap last [])
def pool (es : List (Nat × CpInfo)) (last : Nat) : Array CpInfo := ⟨poolList es last⟩
def fileOf (pool : Array CpInfo) (this : Nat) (attrs : Array Attribute := #[]) (ms : Array MethodInfo := #[]) (fl : Nat := 33) (sup : Nat := 0) (ifs : Array Nat := #[]) (fds : Array FieldInfo := #[]) : ClassFile where
  minorVersion := 0
  majorVersion := 65
  constantPool := pool
  accessFlags := fl
  thisClass := this
  superClass := sup
  interfaces := ifs
  fields := fds
  methods := ms
  attributes := attrs
def plain (name : String) (sup : Option ClassId) : Class where
  name := name
  kind := .ordinary
  loader := none
  accessFlags := 33
  super := sup
  interfaces := #[]
  cf := none
  fields := #[]
  methods := #[]
  instanceTypes := #[]
  staticTypes := #[]
  resolved := #[]
  callSites := []
  init := .initialized
  statics := none
  mirror := none

def pool0 : Array CpInfo := pool [(5, u "<init>"), (0, u "()V"), (1, .class_ 10), (1, u "java/lang/Object")] 113

def k0c0 : Code := { maxStack := 0, maxLocals := 1, code := object_method_1_code, exceptionTable := #[], attributes := #[] }
def k0m0 : Method := { name := "<init>", desc := "()V", sig := { parameters := [], returnType := none }, accessFlags := 1, code := some k0c0 }
/-- java/lang/Object -/
def k0 : Class := { plain "java/lang/Object" none with
  accessFlags := 33
  interfaces := #[]
  cf := some (fileOf pool0 8 #[] #[{ accessFlags := 1, nameIndex := 5, descriptorIndex := 6, attributes := #[] }] 33 0 #[] #[])
  fields := #[]
  methods := #[k0m0]
  instanceTypes := #[]
  staticTypes := #[]
  resolved := Array.replicate 124 none
  statics := none }

def pool1 : Array CpInfo := pool [(2, .class_ 4), (1, u "java/lang/Object"), (0, u "<init>"), (0, u "()V"), (2, .long 9223372036854775807), (1, .methodref 12 13), (0, .class_ 14), (0, .nameAndType 15 16), (0, u "java/lang/Math"), (0, u "max"), (0, u "(JJ)J"), (0, .class_ 18), (0, u "com/example/goldweave/goldweave/engine/evaluation/PairwiseAccuracy"), (0, .methodref 17 20), (0, .nameAndType 5 21), (0, u "(JJJ)V"), (0, .methodref 17 23), (0, .nameAndType 24 25), (0, u "precision"), (0, u "()D"), (0, .class_ 27), (0, u "com/example/goldweave/goldweave/engine/evaluation/PairwiseAccuracyPrecisionPinLaw"), (2, u "law"), (0, u "(JJJI)Z")] 3

def k1m0 : Method := { name := "<init>", desc := "()V", sig := { parameters := [], returnType := none }, accessFlags := 1, code := none }
def k1c1 : Code := { maxStack := 8, maxLocals := 19, code := code, exceptionTable := #[], attributes := #[] }
def k1m1 : Method := { name := "law", desc := "(JJJI)Z", sig := { parameters := [.long, .long, .long, .int], returnType := some .boolean }, accessFlags := 9, code := some k1c1 }
/-- com/example/goldweave/goldweave/engine/evaluation/PairwiseAccuracyPrecisionPinLaw -/
def k1 : Class := { plain "com/example/goldweave/goldweave/engine/evaluation/PairwiseAccuracyPrecisionPinLaw" (some 0) with
  accessFlags := 49
  interfaces := #[]
  cf := some (fileOf pool1 26 #[] #[{ accessFlags := 1, nameIndex := 5, descriptorIndex := 6, attributes := #[] }, { accessFlags := 9, nameIndex := 30, descriptorIndex := 31, attributes := #[] }] 49 2 #[] #[])
  fields := #[]
  methods := #[k1m0, k1m1]
  instanceTypes := #[]
  staticTypes := #[]
  resolved := Array.replicate 35 none
  statics := none }

def pool2 : Array CpInfo := pool [(1, .class_ 2), (0, u "java/lang/Math"), (1, .class_ 6), (1, u "java/lang/Object"), (0, u "<init>"), (0, u "()V"), (89, .class_ 100), (1, u "java/lang/Math$RandomNumberGeneratorHolder"), (20, u "(JJ)J"), (50, u "negativeZeroFloatBits"), (0, u "J"), (2, u "negativeZeroDoubleBits"), (21, u "max"), (46, u "$assertionsDisabled"), (0, u "Z"), (91, u "twoToTheDoubleScaleDown"), (0, u "D"), (4, u "twoToTheDoubleScaleUp"), (9, u "E"), (3, u "PI"), (2, u "TAU"), (2, u "DEGREES_TO_RADIANS"), (0, u "RADIANS_TO_DEGREES")] 94

def k2m0 : Method := { name := "<init>", desc := "()V", sig := { parameters := [], returnType := none }, accessFlags := 2, code := none }
def k2c1 : Code := { maxStack := 4, maxLocals := 4, code := jdk_29_method_66_code, exceptionTable := #[], attributes := #[] }
def k2m1 : Method := { name := "max", desc := "(JJ)J", sig := { parameters := [.long, .long], returnType := some .long }, accessFlags := 9, code := some k2c1 }
/-- java/lang/Math -/
def k2 : Class := { plain "java/lang/Math" (some 0) with
  accessFlags := 49
  interfaces := #[]
  cf := some (fileOf pool2 1 #[.nestMembers #[98]] #[{ accessFlags := 2, nameIndex := 7, descriptorIndex := 8, attributes := #[] }, { accessFlags := 9, nameIndex := 198, descriptorIndex := 121, attributes := #[] }] 49 4 #[] #[{ accessFlags := 25, nameIndex := 354, descriptorIndex := 339, attributes := #[] }, { accessFlags := 25, nameIndex := 358, descriptorIndex := 339, attributes := #[] }, { accessFlags := 25, nameIndex := 361, descriptorIndex := 339, attributes := #[] }, { accessFlags := 26, nameIndex := 364, descriptorIndex := 339, attributes := #[] }, { accessFlags := 26, nameIndex := 365, descriptorIndex := 339, attributes := #[] }, { accessFlags := 26, nameIndex := 172, descriptorIndex := 173, attributes := #[] }, { accessFlags := 26, nameIndex := 176, descriptorIndex := 173, attributes := #[] }, { accessFlags := 8, nameIndex := 344, descriptorIndex := 339, attributes := #[] }, { accessFlags := 8, nameIndex := 338, descriptorIndex := 339, attributes := #[] }, { accessFlags := 4120, nameIndex := 245, descriptorIndex := 246, attributes := #[] }])
  fields := #[{ name := "E", type := .double, accessFlags := 25, slot := 0, constantValue := 0 }, { name := "PI", type := .double, accessFlags := 25, slot := 1, constantValue := 0 }, { name := "TAU", type := .double, accessFlags := 25, slot := 2, constantValue := 0 }, { name := "DEGREES_TO_RADIANS", type := .double, accessFlags := 26, slot := 3, constantValue := 0 }, { name := "RADIANS_TO_DEGREES", type := .double, accessFlags := 26, slot := 4, constantValue := 0 }, { name := "negativeZeroFloatBits", type := .long, accessFlags := 26, slot := 5, constantValue := 0 }, { name := "negativeZeroDoubleBits", type := .long, accessFlags := 26, slot := 6, constantValue := 0 }, { name := "twoToTheDoubleScaleUp", type := .double, accessFlags := 8, slot := 7, constantValue := 0 }, { name := "twoToTheDoubleScaleDown", type := .double, accessFlags := 8, slot := 8, constantValue := 0 }, { name := "$assertionsDisabled", type := .boolean, accessFlags := 4120, slot := 9, constantValue := 0 }]
  methods := #[k2m0, k2m1]
  instanceTypes := #[]
  staticTypes := #[.double, .double, .double, .double, .double, .long, .long, .double, .double, .boolean]
  resolved := Array.replicate 460 none
  statics := none }

def pool3 : Array CpInfo := pool [(1, .methodref 2 3), (0, .class_ 4), (0, .nameAndType 5 6), (0, u "java/lang/Object"), (0, u "<init>"), (0, u "()V"), (0, .class_ 8), (0, u "java/lang/Record")] 13

def k3c0 : Code := { maxStack := 1, maxLocals := 1, code := jdk_30_method_1_code, exceptionTable := #[], attributes := #[] }
def k3m0 : Method := { name := "<init>", desc := "()V", sig := { parameters := [], returnType := none }, accessFlags := 4, code := some k3c0 }
/-- java/lang/Record -/
def k3 : Class := { plain "java/lang/Record" (some 0) with
  accessFlags := 1057
  interfaces := #[]
  cf := some (fileOf pool3 7 #[] #[{ accessFlags := 4, nameIndex := 5, descriptorIndex := 6, attributes := #[] }] 1057 2 #[] #[])
  fields := #[]
  methods := #[k3m0]
  instanceTypes := #[]
  staticTypes := #[]
  resolved := Array.replicate 22 none
  statics := none }

def pool4 : Array CpInfo := pool [(1, .methodref 2 3), (0, .class_ 4), (0, .nameAndType 5 6), (0, u "java/lang/Record"), (0, u "<init>"), (0, u "()V"), (9, .fieldref 17 18), (0, .class_ 19), (0, .nameAndType 20 21), (0, u "com/example/goldweave/goldweave/engine/evaluation/PairwiseAccuracy"), (0, u "truePairs"), (0, u "J"), (0, .fieldref 17 23), (0, .nameAndType 24 21), (0, u "linkedPairs"), (0, .fieldref 17 26), (0, .nameAndType 27 21), (0, u "correctPairs"), (12, u "(JJJ)V"), (0, .methodref 17 42), (0, .nameAndType 43 44), (0, u "ratio"), (0, u "(JJ)D"), (2, u "precision"), (0, u "()D"), (86, .class_ 136), (0, u "com/example/goldweave/goldweave/engine/evaluation/PairwiseAccuracy$Placement")] 56

def k4c0 : Code := { maxStack := 8, maxLocals := 7, code := prog_27_method_1_code, exceptionTable := #[], attributes := #[] }
def k4m0 : Method := { name := "<init>", desc := "(JJJ)V", sig := { parameters := [.long, .long, .long], returnType := none }, accessFlags := 1, code := some k4c0 }
def k4c1 : Code := { maxStack := 4, maxLocals := 1, code := prog_27_method_3_code, exceptionTable := #[], attributes := #[] }
def k4m1 : Method := { name := "precision", desc := "()D", sig := { parameters := [], returnType := some .double }, accessFlags := 1, code := some k4c1 }
def k4c2 : Code := { maxStack := 4, maxLocals := 4, code := prog_27_method_7_code, exceptionTable := #[], attributes := #[] }
def k4m2 : Method := { name := "ratio", desc := "(JJ)D", sig := { parameters := [.long, .long], returnType := some .double }, accessFlags := 10, code := some k4c2 }
/-- com/example/goldweave/goldweave/engine/evaluation/PairwiseAccuracy -/
def k4 : Class := { plain "com/example/goldweave/goldweave/engine/evaluation/PairwiseAccuracy" (some 3) with
  accessFlags := 49
  interfaces := #[]
  cf := some (fileOf pool4 17 #[.nestMembers #[135]] #[{ accessFlags := 1, nameIndex := 5, descriptorIndex := 40, attributes := #[] }, { accessFlags := 1, nameIndex := 47, descriptorIndex := 48, attributes := #[] }, { accessFlags := 10, nameIndex := 43, descriptorIndex := 44, attributes := #[] }] 49 2 #[] #[{ accessFlags := 18, nameIndex := 20, descriptorIndex := 21, attributes := #[] }, { accessFlags := 18, nameIndex := 24, descriptorIndex := 21, attributes := #[] }, { accessFlags := 18, nameIndex := 27, descriptorIndex := 21, attributes := #[] }])
  fields := #[{ name := "truePairs", type := .long, accessFlags := 18, slot := 0, constantValue := 0 }, { name := "linkedPairs", type := .long, accessFlags := 18, slot := 1, constantValue := 0 }, { name := "correctPairs", type := .long, accessFlags := 18, slot := 2, constantValue := 0 }]
  methods := #[k4m0, k4m1, k4m2]
  instanceTypes := #[.long, .long, .long]
  staticTypes := #[]
  resolved := Array.replicate 193 none
  statics := none }

def pool5 : Array CpInfo := pool [(1, u "java/lang/Cloneable"), (0, .class_ 1), (0, u "java/lang/Object"), (0, .class_ 3)] 3

/-- java/lang/Cloneable -/
def k5 : Class := { plain "java/lang/Cloneable" (some 0) with
  accessFlags := 1537
  interfaces := #[]
  cf := some (fileOf pool5 2 #[] #[] 1537 4 #[] #[])
  fields := #[]
  methods := #[]
  instanceTypes := #[]
  staticTypes := #[]
  resolved := Array.replicate 8 none
  statics := none }

def pool6 : Array CpInfo := pool [(1, u "java/io/Serializable"), (0, .class_ 1), (0, u "java/lang/Object"), (0, .class_ 3)] 3

/-- java/io/Serializable -/
def k6 : Class := { plain "java/io/Serializable" (some 0) with
  accessFlags := 1537
  interfaces := #[]
  cf := some (fileOf pool6 2 #[] #[] 1537 4 #[] #[])
  fields := #[]
  methods := #[]
  instanceTypes := #[]
  staticTypes := #[]
  resolved := Array.replicate 8 none
  statics := none }

/-- the primitive byte -/
def k7 : Class := { plain "byte" none with kind := .primitive 'B', accessFlags := 0x411 }
/-- [B -/
def k8 : Class := { plain "[B" (some 0) with kind := .array 7 .byte, interfaces := #[5, 6], accessFlags := 1041 }

/-- the primitive int -/
def k9 : Class := { plain "int" none with kind := .primitive 'I', accessFlags := 0x411 }
/-- [I -/
def k10 : Class := { plain "[I" (some 0) with kind := .array 9 .int, interfaces := #[5, 6], accessFlags := 1041 }

def heap : Heap := #[]
def classes : Array Class := #[k0, k1, k2, k3, k4, k5, k6, k7, k8, k9, k10]
def interned : List (Array UInt16 × Addr) := []
def slotsUsed : Nat := 0
def theMethod : MethodId := ⟨1, 1⟩
def args0 : Array Value := #[.long 5, .long 300, .long 7, .int 1]
def aboutOver (below : List Frame) : State where
  vm := { classes := classes, interned := interned.toArray }
  heap := heap
  slotsUsed := slotsUsed
  threads := #[{ frames := .invoking theMethod args0 :: below }]
def below0 : List Frame := [.native { method := ⟨0, 0⟩, args := #[] }]
def about1 : State := aboutOver below0
def p0 : Program := .bare "" "" ""
def e0 : Env := launch0.env 0 0 0
theorem w_frames : about1.frames = Frame.invoking theMethod args0 :: below0 := rfl
set_option maxRecDepth 65536 in
theorem w_args : argsFit about1.vm theMethod args0 = true := by decide +kernel
set_option maxRecDepth 65536 in
theorem w_heap : heapFits about1 = true := by decide +kernel
set_option maxRecDepth 65536 in
theorem w_runnable : about1.curStatus? = some .runnable := by decide +kernel
set_option maxRecDepth 65536 in
theorem w_alone : about1.alone = true := by decide +kernel
set_option maxRecDepth 65536 in
theorem w_named : about1.methodNamed? x = some theMethod := by decide +kernel
set_option maxRecDepth 65536 in
theorem w_hears : about1.hears theMethod below0 = true := by decide +kernel
set_option maxRecDepth 65536 in
theorem w_ripe : about1.ripe theMethod args0 below0 = true := by decide +kernel
theorem w_running : about1.status = .running := rfl
set_option maxRecDepth 65536 in
theorem w_room : about1.hasRoom e0.platform room_1 = true :=
  launch0.hasRoom_least _ room_1 (by decide +kernel) (by decide +kernel) (by decide +kernel) (by decide +kernel) (by decide +kernel) (by decide +kernel)
theorem allAtoms_all (ts : List Jvm.Cond) (a : Array Jvm.Value) (st : Jvm.State) : (allAtoms ts).before a st = ts.all (fun c => c.before a st) := by
  induction ts with
  | nil => rfl
  | cons c t ih =>
    show (Jvm.Cond.and c (allAtoms t)).before a st = _
    rw [Jvm.Cond.before_and, ih, List.all_cons]
def words1 : List Jvm.Cond := Jvm.Cond.code x code maxLocals ret :: tables_1
/-- a 'code' word, met by the world's own term for the bytes: nothing is compared byte by byte -/
theorem code_word {y : MethodName} {bytes : ByteArray} {mx : Nat} {rt : Option FieldType} {a : Array Value} {s : State} {m : MethodId} {meth : Method} {c : Code} (h1 : s.methodNamed? y = some m) (h2 : s.vm.method? m = some meth) (h3 : meth.code = some c) (h4 : c.code = bytes)
    (h5 : (c.maxLocals == mx && c.exceptionTable.isEmpty && decide (c.maxStack ≤ mostOperands) && decide (meth.sig.returnType = rt) && !meth.locks && decide (parseMethodDescriptor y.desc = some meth.sig)) = true) : (Jvm.Cond.code y bytes mx rt).before a s = true := by
  simp only [Bool.and_eq_true, beq_iff_eq, Bool.not_eq_true', decide_eq_true_eq] at h5
  obtain ⟨⟨⟨⟨⟨g1, g2⟩, g3⟩, g4⟩, g5⟩, g6⟩ := h5
  simp [Cond.before, Cond.holds, Cond.value, h1, h2, h3, h4, g1, g2, g3, g4, g5, g6]
def isCode : Jvm.Cond → Bool
  | .code _ _ _ _ => true
  | _ => false
theorem all_split {L : List Jvm.Cond} {P : Jvm.Cond → Bool} (h1 : L.all (fun c => isCode c || P c) = true) (h2 : ∀ c ∈ L.filter isCode, P c = true) : L.all P = true := by
  refine List.all_eq_true.mpr fun c hc => ?_
  have h := List.all_eq_true.mp h1 c hc
  rcases Bool.eq_false_or_eq_true (isCode c) with hi | hi
  · exact h2 c (List.mem_filter.mpr ⟨hc, hi⟩)
  · simpa [hi] using h
set_option maxRecDepth 65536 in
theorem w_c0 : (Jvm.Cond.code x code maxLocals ret).before args0 about1 = true := code_word (m := ⟨1, 1⟩) (meth := k1m1) (c := k1c1) (by decide +kernel) rfl rfl rfl (by decide +kernel)
set_option maxRecDepth 65536 in
theorem w_c1 : (Jvm.Cond.code ({ cls := "java/lang/Math", name := "max", desc := "(JJ)J" } : Jvm.MethodName) jdk_29_method_66_code (4 : Nat) (Option.some Jvm.ClassFile.FieldType.long)).before args0 about1 = true := code_word (m := ⟨2, 1⟩) (meth := k2m1) (c := k2c1) (by decide +kernel) rfl rfl rfl (by decide +kernel)
set_option maxRecDepth 65536 in
theorem w_c2 : (Jvm.Cond.code ({ cls := "com/example/goldweave/goldweave/engine/evaluation/PairwiseAccuracy", name := "<init>", desc := "(JJJ)V" } : Jvm.MethodName) prog_27_method_1_code (7 : Nat) (Option.none : Option Jvm.ClassFile.FieldType)).before args0 about1 = true := code_word (m := ⟨4, 0⟩) (meth := k4m0) (c := k4c0) (by decide +kernel) rfl rfl rfl (by decide +kernel)
set_option maxRecDepth 65536 in
theorem w_c3 : (Jvm.Cond.code ({ cls := "java/lang/Record", name := "<init>", desc := "()V" } : Jvm.MethodName) jdk_30_method_1_code (1 : Nat) (Option.none : Option Jvm.ClassFile.FieldType)).before args0 about1 = true := code_word (m := ⟨3, 0⟩) (meth := k3m0) (c := k3c0) (by decide +kernel) rfl rfl rfl (by decide +kernel)
set_option maxRecDepth 65536 in
theorem w_c4 : (Jvm.Cond.code ({ cls := "java/lang/Object", name := "<init>", desc := "()V" } : Jvm.MethodName) object_method_1_code (1 : Nat) (Option.none : Option Jvm.ClassFile.FieldType)).before args0 about1 = true := code_word (m := ⟨0, 0⟩) (meth := k0m0) (c := k0c0) (by decide +kernel) rfl rfl rfl (by decide +kernel)
set_option maxRecDepth 65536 in
theorem w_c5 : (Jvm.Cond.code ({ cls := "com/example/goldweave/goldweave/engine/evaluation/PairwiseAccuracy", name := "precision", desc := "()D" } : Jvm.MethodName) prog_27_method_3_code (1 : Nat) (Option.some Jvm.ClassFile.FieldType.double)).before args0 about1 = true := code_word (m := ⟨4, 1⟩) (meth := k4m1) (c := k4c1) (by decide +kernel) rfl rfl rfl (by decide +kernel)
set_option maxRecDepth 65536 in
theorem w_c6 : (Jvm.Cond.code ({ cls := "com/example/goldweave/goldweave/engine/evaluation/PairwiseAccuracy", name := "ratio", desc := "(JJ)D" } : Jvm.MethodName) prog_27_method_7_code (4 : Nat) (Option.some Jvm.ClassFile.FieldType.double)).before args0 about1 = true := code_word (m := ⟨4, 2⟩) (meth := k4m2) (c := k4c2) (by decide +kernel) rfl rfl rfl (by decide +kernel)
def codes1 : List Jvm.Cond := [Jvm.Cond.code x code maxLocals ret, Jvm.Cond.code ({ cls := "java/lang/Math", name := "max", desc := "(JJ)J" } : Jvm.MethodName) jdk_29_method_66_code (4 : Nat) (Option.some Jvm.ClassFile.FieldType.long), Jvm.Cond.code ({ cls := "com/example/goldweave/goldweave/engine/evaluation/PairwiseAccuracy", name := "<init>", desc := "(JJJ)V" } : Jvm.MethodName) prog_27_method_1_code (7 : Nat) (Option.none : Option Jvm.ClassFile.FieldType), Jvm.Cond.code ({ cls := "java/lang/Record", name := "<init>", desc := "()V" } : Jvm.MethodName) jdk_30_method_1_code (1 : Nat) (Option.none : Option Jvm.ClassFile.FieldType), Jvm.Cond.code ({ cls := "java/lang/Object", name := "<init>", desc := "()V" } : Jvm.MethodName) object_method_1_code (1 : Nat) (Option.none : Option Jvm.ClassFile.FieldType), Jvm.Cond.code ({ cls := "com/example/goldweave/goldweave/engine/evaluation/PairwiseAccuracy", name := "precision", desc := "()D" } : Jvm.MethodName) prog_27_method_3_code (1 : Nat) (Option.some Jvm.ClassFile.FieldType.double), Jvm.Cond.code ({ cls := "com/example/goldweave/goldweave/engine/evaluation/PairwiseAccuracy", name := "ratio", desc := "(JJ)D" } : Jvm.MethodName) prog_27_method_7_code (4 : Nat) (Option.some Jvm.ClassFile.FieldType.double)]
set_option maxRecDepth 65536 in
theorem codes_eq : words1.filter isCode = codes1 := rfl
theorem w_codes : ∀ c ∈ words1.filter isCode, c.before args0 about1 = true := by
  rw [codes_eq]
  intro c hc
  simp only [codes1, List.mem_cons, List.not_mem_nil, or_false] at hc
  rcases hc with rfl | rfl | rfl | rfl | rfl | rfl | rfl
  · exact w_c0
  · exact w_c1
  · exact w_c2
  · exact w_c3
  · exact w_c4
  · exact w_c5
  · exact w_c6
set_option maxRecDepth 65536 in
theorem w_t1 : (words1.take 24).all (fun c => isCode c || c.before args0 about1) = true := by decide +kernel
set_option maxRecDepth 65536 in
theorem w_t2 : (words1.drop 24).all (fun c => isCode c || c.before args0 about1) = true := by decide +kernel
theorem w_tables : (allAtoms (Jvm.Cond.code x code maxLocals ret :: tables_1)).before args0 about1 = true := by
  rw [allAtoms_all]
  show words1.all (fun c => c.before args0 about1) = true
  refine all_split ?_ w_codes
  rw [← List.take_append_drop 24 words1, List.all_append, w_t1, w_t2]
  rfl
set_option maxRecDepth 65536 in
theorem w_case : (Jvm.Cond.and given_1 narrow_1).before args0 about1 = true := by decide +kernel
theorem w_applies : (headSpec (Jvm.Cond.code x code maxLocals ret :: tables_1) room_1).applies x e0.platform about1 = true :=
  (Spec.applies_iff w_frames).mpr ⟨w_running, w_runnable, w_alone, w_named, w_hears, w_ripe, w_room, w_tables⟩
theorem atStart : AtStart classFile x code maxLocals ret World_1 tables_1 room_1 Calls_1 rest_1 Pre_1 launch0 p0 e0 about1 theMethod args0 below0 :=
  ⟨lists_1, trivial, launch0.admits_env _ _ _, launch0.least_env, fairChoices_fair.cas, fairChoices_fair.clock, w_frames, w_args, w_heap, w_applies, trivial, trivial, w_case⟩
end start1
theorem witness_1 : WitnessClaimed_1 := ⟨start1.p0, start1.e0, start1.about1, start1.theMethod, start1.args0, start1.below0, start1.atStart⟩
end Jvm.Pilot.@@N@@
