import JvmDerived
import JvmDerived.Pilot.@@N@@Statement
import JvmDerived.Pilot.@@N@@Code
set_option linter.unusedVariables false
set_option linter.unusedSimpArgs false
namespace Jvm.Pilot.@@N@@
open Jvm Jvm.ClassFile Sem Op Lib Jvm.Free Jvm.Stand Jvm.LawKit Jvm.RoadKit Bundle Jvm.Pilot.@@N@@.Jvm.D
/-- the run goes on from here to an end at which K holds -/
def own_Go (p : Program) (e : Env) (below : List Frame) (T : State) (g : JFrame) (K : State → Outcome → Prop) : Prop := ∃ s₂ o, Steps p.tables e below (T.setTop g) s₂ ∧ K s₂ o
section OwnGo
variable {p : Program} {l : Launch} {e : Env} {R : Room} {s : State} {m : MethodId} {args : Array Value} {below : List Frame} {meth : Method} {c : Code} {T T' s₂ : State} {o : Outcome} {locs : List Loc} {cells slots : Nat} {g g' : JFrame} {K : State → Outcome → Prop}
theorem own_enter (q : g = g') (k : own_Go p e below T g' K) : ∃ s₂ o, Steps p.tables e below (T.setTop g) s₂ ∧ K s₂ o := by subst q; exact k
theorem own_st (h : ∀ t, Steps p.tables e below (T'.setTop g') t → Steps p.tables e below (T.setTop g) t) (k : own_Go p e below T' g' K) : own_Go p e below T g K := by
  obtain ⟨s2, o, h1, h2⟩ := k
  exact ⟨s2, o, h _ h1, h2⟩
theorem own_tr (h : Steps p.tables e below (T.setTop g) (T'.setTop g')) (k : own_Go p e below T' g' K) : own_Go p e below T g K := own_st (fun _ q => h.trans q) k
theorem own_fin (h : Steps p.tables e below (T.setTop g) s₂) (k : K s₂ o) : own_Go p e below T g K := ⟨s₂, o, h, k⟩
theorem own_retI (X : Stand p l e R s m args below meth c T locs cells slots) (hx : p.tables.exec = Jvm.exec) {pc : Nat} {Ls : Array Slot} {z : Int32} {rest : List Value} (hret : meth.sig.returnType = some .int) (hd : decode c.code pc = .ok (.ireturn, 1)) {fs : List Frame}
    (hl : ∀ (f : JFrame) (acts : List Action), f.method = m → f.locked = none → f.entered = [] → (doReturn e (T.setTop f) acts (some (.int z))).1 = T.setFrames fs) : Steps p.tables e below (T.setTop (mkF m pc Ls (.int z :: rest))) (T.setFrames fs) := by
  have hm' : T.vm.method? m = some meth := X.method'
  have hn : narrow .int (.int z) = .int z := rfl
  show Steps p.tables e below (T.setTop { method := m, pc := pc, locals := Ls, stack := _ :: rest, locked := none }) _
  jvm_step X.here [X.here.top, hx, hd, hm', hret, hn]
  first | (intro acts; rw [hl _ acts rfl rfl rfl]) | rw [hl _ _ rfl rfl rfl]
  exact Steps.refl _
theorem own_retD (X : Stand p l e R s m args below meth c T locs cells slots) (hx : p.tables.exec = Jvm.exec) {pc : Nat} {Ls : Array Slot} {z : UInt64} {rest : List Value} (hret : meth.sig.returnType = some .double) (hd : decode c.code pc = .ok (.dreturn, 1)) {fs : List Frame}
    (hl : ∀ (f : JFrame) (acts : List Action), f.method = m → f.locked = none → f.entered = [] → (doReturn e (T.setTop f) acts (some (.double z))).1 = T.setFrames fs) : Steps p.tables e below (T.setTop (mkF m pc Ls (.double z :: rest))) (T.setFrames fs) := by
  have hm' : T.vm.method? m = some meth := X.method'
  have hn : narrow .double (.double z) = .double z := rfl
  show Steps p.tables e below (T.setTop { method := m, pc := pc, locals := Ls, stack := _ :: rest, locked := none }) _
  jvm_step X.here [X.here.top, hx, hd, hm', hret, hn]
  first | (intro acts; rw [hl _ acts rfl rfl rfl]) | rw [hl _ _ rfl rfl rfl]
  exact Steps.refl _
theorem own_retL (X : Stand p l e R s m args below meth c T locs cells slots) (hx : p.tables.exec = Jvm.exec) {pc : Nat} {Ls : Array Slot} {z : Int64} {rest : List Value} (hret : meth.sig.returnType = some .long) (hd : decode c.code pc = .ok (.lreturn, 1)) {fs : List Frame}
    (hl : ∀ (f : JFrame) (acts : List Action), f.method = m → f.locked = none → f.entered = [] → (doReturn e (T.setTop f) acts (some (.long z))).1 = T.setFrames fs) : Steps p.tables e below (T.setTop (mkF m pc Ls (.long z :: rest))) (T.setFrames fs) := by
  have hm' : T.vm.method? m = some meth := X.method'
  have hn : narrow .long (.long z) = .long z := rfl
  show Steps p.tables e below (T.setTop { method := m, pc := pc, locals := Ls, stack := _ :: rest, locked := none }) _
  jvm_step X.here [X.here.top, hx, hd, hm', hret, hn]
  first | (intro acts; rw [hl _ acts rfl rfl rfl]) | rw [hl _ _ rfl rfl rfl]
  exact Steps.refl _
theorem own_retR (X : Stand p l e R s m args below meth c T locs cells slots) (hx : p.tables.exec = Jvm.exec) {pc : Nat} {Ls : Array Slot} {z : Value} {t : FieldType} {rest : List Value} (hz : z.isRef = true) (hret : meth.sig.returnType = some t) (ht : t.isReference = true) (hd : decode c.code pc = .ok (.areturn, 1)) {fs : List Frame}
    (hl : ∀ (f : JFrame) (acts : List Action), f.method = m → f.locked = none → f.entered = [] → (doReturn e (T.setTop f) acts (some z)).1 = T.setFrames fs) : Steps p.tables e below (T.setTop (mkF m pc Ls (z :: rest))) (T.setFrames fs) := by
  have hm' : T.vm.method? m = some meth := X.method'
  show Steps p.tables e below (T.setTop { method := m, pc := pc, locals := Ls, stack := _ :: rest, locked := none }) _
  jvm_step X.here [X.here.top, hx, hd, hm', hret, hz, ht]
  first | (intro acts; rw [hl _ acts rfl rfl rfl]) | rw [hl _ _ rfl rfl rfl]
  exact Steps.refl _
end OwnGo
section OwnFloats
open Jvm.FP.Core
theorem own_qmin64 : b64.qmin = -1074 := by decide +kernel
theorem own_zfin {s : Bool} {C : Nat} {q : Int} : zmag b64 (.fin s C q) = C * 2 ^ (q - b64.qmin).toNat := rfl
/-- a quotient is at most V, if the dividend is at most V times the divisor (all in units) -/
theorem own_div_units {C D zV : Nat} {q r e0 : Int} (hq : b64.qmin ≤ q) (hr : b64.qmin ≤ r) (h0 : e0 ≤ b64.qmin) (h1 : e0 ≤ q - r) :
    C * 2 ^ (q - r - e0).toNat * 2 ^ (r - b64.qmin).toNat = C * 2 ^ (q - b64.qmin).toNat * 2 ^ (-b64.qmin).toNat * 2 ^ (b64.qmin - e0).toNat := by
  have hm := own_qmin64
  rw [Nat.mul_assoc, ← Nat.pow_add, Nat.mul_assoc, Nat.mul_assoc, ← Nat.pow_add, ← Nat.pow_add]
  congr 2
  omega
theorem own_div_le {a b V : UInt64} {s t : Bool} {C D : Nat} {q r : Int} (ha : val64 a = .fin s C q) (hb : val64 b = .fin t D r) (hD : D ≠ 0) (hV : val64 V ≠ .nan)
    (h : zmag b64 (val64 a) * one64 ≤ zmag b64 (val64 V) * zmag b64 (val64 b)) : zmag b64 (val64 (ddiv a b)) ≤ zmag b64 (val64 V) := by
  have fa := val64_fits a
  have fb := val64_fits b
  rw [ha] at fa
  rw [hb] at fb
  rw [val64_ddiv, ha, hb]
  show zmag b64 (if D = 0 then _ else roundRatio b64 (s != t) C D (q - r)) ≤ _
  rw [if_neg hD]
  have hm := own_qmin64
  obtain ⟨e0, he⟩ : ∃ e0, e0 = min b64.qmin (q - r) := ⟨_, rfl⟩
  have h0 : e0 ≤ b64.qmin := by omega
  have h1 : e0 ≤ q - r := by omega
  refine zmag_roundRatio_le good_b64 (Nat.pos_of_ne_zero hD) (val64_fits V) hV h0 h1 ?_
  rw [ha, hb, own_zfin, own_zfin, ← pow_qmin64] at h
  have e := own_div_units (C := C) (D := D) (zV := 0) fa.2.1 fb.2.1 h0 h1
  unfold inUnits
  refine Nat.le_of_mul_le_mul_right (c := 2 ^ (r - b64.qmin).toNat) ?_ (Nat.two_pow_pos _)
  rw [e]
  have h2 := Nat.mul_le_mul_right (2 ^ (b64.qmin - e0).toNat) h
  refine Nat.le_trans h2 (Nat.le_of_eq ?_)
  generalize zmag b64 (val64 V) = zV
  generalize 2 ^ (r - b64.qmin).toNat = X
  generalize 2 ^ (b64.qmin - e0).toNat = Y
  ac_rfl
theorem own_div_ge {a b V : UInt64} {s t : Bool} {C D : Nat} {q r : Int} (ha : val64 a = .fin s C q) (hb : val64 b = .fin t D r) (hD : D ≠ 0)
    (h : zmag b64 (val64 V) * zmag b64 (val64 b) ≤ zmag b64 (val64 a) * one64) : zmag b64 (val64 V) ≤ zmag b64 (val64 (ddiv a b)) := by
  have fa := val64_fits a
  have fb := val64_fits b
  rw [ha] at fa
  rw [hb] at fb
  rw [val64_ddiv, ha, hb]
  show _ ≤ zmag b64 (if D = 0 then _ else roundRatio b64 (s != t) C D (q - r))
  rw [if_neg hD]
  have hm := own_qmin64
  obtain ⟨e0, he⟩ : ∃ e0, e0 = min b64.qmin (q - r) := ⟨_, rfl⟩
  have h0 : e0 ≤ b64.qmin := by omega
  have h1 : e0 ≤ q - r := by omega
  refine zmag_roundRatio_ge good_b64 (Nat.pos_of_ne_zero hD) (val64_fits V) h0 h1 ?_
  rw [ha, hb, own_zfin, own_zfin, ← pow_qmin64] at h
  have e := own_div_units (C := C) (D := D) (zV := 0) fa.2.1 fb.2.1 h0 h1
  unfold inUnits
  refine Nat.le_of_mul_le_mul_right (c := 2 ^ (r - b64.qmin).toNat) ?_ (Nat.two_pow_pos _)
  rw [e]
  have h2 := Nat.mul_le_mul_right (2 ^ (b64.qmin - e0).toNat) h
  refine Nat.le_trans (Nat.le_of_eq ?_) h2
  generalize zmag b64 (val64 V) = zV
  generalize 2 ^ (r - b64.qmin).toNat = X
  generalize 2 ^ (b64.qmin - e0).toNat = Y
  ac_rfl
/-- rounding whole numbers keeps their order -/
theorem own_round_mono {A B c d : Nat} {q r : Int} (h : A ≤ B) (hA : roundRatio b64 false A 1 0 = .fin false c q) (hB : roundRatio b64 false B 1 0 = .fin false d r) :
    zmag b64 (roundRatio b64 false A 1 0) ≤ zmag b64 (roundRatio b64 false B 1 0) := by
  have fA := roundRatio_fits good_b64 false A (B := 1) (by decide) 0
  have fB := roundRatio_fits good_b64 false B (B := 1) (by decide) 0
  have hm := own_qmin64
  rw [hA] at fA
  rw [hB] at fB
  have d1 := roundRatio_nearest good_b64 (by decide) hA fB.1 fB.2.1 (e0 := b64.qmin) (Int.le_refl _) (by omega)
  have d2 := roundRatio_nearest good_b64 (by decide) hB fA.1 fA.2.1 (e0 := b64.qmin) (Int.le_refl _) (by omega)
  rw [hA, hB]
  show inUnits c q b64.qmin ≤ inUnits d r b64.qmin
  unfold distance at d1 d2
  have hx : inUnits A 0 b64.qmin ≤ inUnits B 0 b64.qmin := Nat.mul_le_mul_right _ h
  have hxe : inUnits A 0 b64.qmin = inUnits B 0 b64.qmin → A = B := fun e => Nat.eq_of_mul_eq_mul_right (Nat.two_pow_pos _) e
  refine Nat.le_of_not_lt fun hlt => ?_
  have hAB : A = B := hxe (by
    generalize inUnits A 0 b64.qmin = x at *
    generalize inUnits B 0 b64.qmin = y at *
    generalize inUnits c q b64.qmin = u at *
    generalize inUnits d r b64.qmin = v at *
    omega)
  subst hAB
  have := hA.symm.trans hB
  cases this
  exact absurd hlt (Nat.lt_irrefl _)
theorem own_val_l2d {a : Int64} (h : 0 ≤ a.toInt) : ∃ c q, val64 (l2d a) = .fin false c q ∧ val64 (l2d a) = roundRatio b64 false a.toInt.natAbs 1 0 := by
  obtain ⟨c, q, e⟩ := l2d_shape a
  have hs : decide (a.toInt < 0) = false := by simp; omega
  rw [hs] at e
  refine ⟨c, q, e, ?_⟩
  rw [val64_l2d]
  show roundRatio b64 (decide (a.toInt < 0)) a.toInt.natAbs 1 0 = _
  rw [hs]
theorem own_l2d_mono {a b : Int64} (h0 : 0 ≤ a.toInt) (h : a.toInt ≤ b.toInt) : zmag b64 (val64 (l2d a)) ≤ zmag b64 (val64 (l2d b)) := by
  obtain ⟨c, q, e1, e2⟩ := own_val_l2d h0
  obtain ⟨d, r, e3, e4⟩ := own_val_l2d (a := b) (by omega)
  rw [e2, e4]
  exact own_round_mono (by omega) (e2.symm.trans e1) (e4.symm.trans e3)
theorem own_sgn_div {a b : UInt64} {s t : Bool} {C D : Nat} {q r : Int} (ha : val64 a = .fin s C q) (hb : val64 b = .fin t D r) (hD : D ≠ 0) : sgn (val64 (ddiv a b)) = (s != t) := by
  rw [val64_ddiv, ha, hb]
  show sgn (if D = 0 then _ else roundRatio b64 (s != t) C D (q - r)) = _
  rw [if_neg hD, sgn_roundRatio]
theorem own_div_nn {a b : UInt64} {s t : Bool} {C D : Nat} {q r : Int} (ha : val64 a = .fin s C q) (hb : val64 b = .fin t D r) (hD : D ≠ 0) : val64 (ddiv a b) ≠ .nan := by
  rw [val64_ddiv, ha, hb]
  show (if D = 0 then _ else roundRatio b64 (s != t) C D (q - r)) ≠ _
  rw [if_neg hD]
  exact roundRatio_ne_nan _ _ _ _ _
theorem own_one_nn : val64 dconst1 ≠ .nan := by decide +kernel
theorem own_one_zmag : zmag b64 (val64 dconst1) = one64 := by decide +kernel
theorem own_zero_nn : val64 dconst0 ≠ .nan := by decide +kernel
theorem own_zero_zmag : zmag b64 (val64 dconst0) = 0 := by decide +kernel
end OwnFloats
section OwnW
open Jvm.FP.Core
/-- quarter degrees -/
def own_q (a : Int32) : UInt64 := FP.dmul (FP.i2d a) (4598175219545276416 : UInt64)
theorem own_q_nn (a : Int32) : Jvm.Free.Fl.NoNaN64 (own_q a) := Jvm.Free.Fl.noNaN64_no.mpr (dmul_out (i2d_fin a) (by rw [fin_bits]; decide +kernel))
/-- what comparison goes by: the bits with their sign -/
abbrev own_in (x b : UInt64) : Prop := dkey x ≤ dkey b ∧ -dkey b ≤ dkey x
theorem own_cmp {x b : UInt64} (hx : Jvm.Free.Fl.NoNaN64 x) (hb : Jvm.Free.Fl.NoNaN64 b) : FP.dcmp x b = some (compare (dkey x) (dkey b)) := dcmp_key (Jvm.Free.Fl.val64_no.mp hx) (Jvm.Free.Fl.val64_no.mp hb)
theorem own_lt_g {x b : UInt64} (hx : Jvm.Free.Fl.NoNaN64 x) (hb : Jvm.Free.Fl.NoNaN64 b) : cmpValue (FP.dcmp x b) .g < (0 : Int32) ↔ dkey x < dkey b := by
  rw [own_cmp hx hb]
  rcases h : compare (dkey x) (dkey b) with _ | _ | _
  · exact ⟨fun _ => (compare_lt_iff _ _).mp h, fun _ => by decide⟩
  · have := (compare_eq_iff _ _).mp h; exact ⟨fun q => absurd q (by decide), fun q => by omega⟩
  · have := (compare_gt_iff _ _).mp h; exact ⟨fun q => absurd q (by decide), fun q => by omega⟩
theorem own_eq_l {x b : UInt64} (hx : Jvm.Free.Fl.NoNaN64 x) (hb : Jvm.Free.Fl.NoNaN64 b) : cmpValue (FP.dcmp x b) .l = (0 : Int32) ↔ dkey x = dkey b := by
  rw [own_cmp hx hb]
  rcases h : compare (dkey x) (dkey b) with _ | _ | _
  · have := (compare_lt_iff _ _).mp h; exact ⟨fun q => absurd q (by decide), fun q => by omega⟩
  · exact ⟨fun _ => (compare_eq_iff _ _).mp h, fun _ => by decide⟩
  · have := (compare_gt_iff _ _).mp h; exact ⟨fun q => absurd q (by decide), fun q => by omega⟩
theorem own_gt_g {x b : UInt64} (hx : Jvm.Free.Fl.NoNaN64 x) (hb : Jvm.Free.Fl.NoNaN64 b) : (0 : Int32) < cmpValue (FP.dcmp x b) .g ↔ dkey b < dkey x := by
  rw [own_cmp hx hb]
  rcases h : compare (dkey x) (dkey b) with _ | _ | _
  · have := (compare_lt_iff _ _).mp h; exact ⟨fun q => absurd q (by decide), fun q => by omega⟩
  · have := (compare_eq_iff _ _).mp h; exact ⟨fun q => absurd q (by decide), fun q => by omega⟩
  · exact ⟨fun _ => (compare_gt_iff _ _).mp h, fun _ => by decide⟩
theorem own_abs_nn {x : UInt64} (hx : Jvm.Free.Fl.NoNaN64 x) : Jvm.Free.Fl.NoNaN64 (x &&& 0x7fffffffffffffff) := by
  rw [Jvm.Free.Fl.noNaN64_iff] at hx ⊢
  rw [mask_toNat]
  omega
theorem own_abs_key (x : UInt64) : dkey (x &&& 0x7fffffffffffffff) = if 0 ≤ dkey x then dkey x else -dkey x := by
  have hl := x.toNat_lt
  unfold dkey
  rw [mask_toNat]
  split <;> split <;> split <;> omega
/-- the range of one coordinate, said of the absolute value -/
theorem own_abs_in {x b : UInt64} : ¬ dkey b < dkey (x &&& 0x7fffffffffffffff) ↔ own_in x b := by
  rw [own_abs_key]
  unfold own_in
  split <;> omega
end OwnW
theorem own_b180_nn : Jvm.Free.Fl.NoNaN64 (4640537203540230144 : UInt64) := by rw [Jvm.Free.Fl.noNaN64_iff]; decide +kernel
theorem own_n180_nn : Jvm.Free.Fl.NoNaN64 (FP.dsub FP.dconst0 (4640537203540230144 : UInt64)) := by rw [Jvm.Free.Fl.noNaN64_iff]; decide +kernel
theorem own_n180_key : FP.Core.dkey (FP.dsub FP.dconst0 (4640537203540230144 : UInt64)) = -FP.Core.dkey (4640537203540230144 : UInt64) := by decide +kernel
theorem own_b90_nn : Jvm.Free.Fl.NoNaN64 (4636033603912859648 : UInt64) := by rw [Jvm.Free.Fl.noNaN64_iff]; decide +kernel
theorem own_n90_nn : Jvm.Free.Fl.NoNaN64 (FP.dsub FP.dconst0 (4636033603912859648 : UInt64)) := by rw [Jvm.Free.Fl.noNaN64_iff]; decide +kernel
theorem own_n90_key : FP.Core.dkey (FP.dsub FP.dconst0 (4636033603912859648 : UInt64)) = -FP.Core.dkey (4636033603912859648 : UInt64) := by decide +kernel
theorem d1_0 : decode method_2_code 0 = .ok (.dload_n 0, 1) := by decide +kernel
theorem d1_1 : decode method_2_code 1 = .ok (.dload_n 2, 1) := by decide +kernel
theorem d1_2 : decode method_2_code 2 = .ok (.dcmp .g, 1) := by decide +kernel
theorem d1_3 : decode method_2_code 3 = .ok (.ifCond .lt 9, 3) := by decide +kernel
theorem d1_6 : decode method_2_code 6 = .ok (.dload_n 0, 1) := by decide +kernel
theorem d1_7 : decode method_2_code 7 = .ok (.dload_n 2, 1) := by decide +kernel
theorem d1_8 : decode method_2_code 8 = .ok (.dcmp .l, 1) := by decide +kernel
theorem d1_9 : decode method_2_code 9 = .ok (.ifCond .ne 7, 3) := by decide +kernel
theorem d1_12 : decode method_2_code 12 = .ok (.iconst 1, 1) := by decide +kernel
theorem d1_13 : decode method_2_code 13 = .ok (.goto 4, 3) := by decide +kernel
theorem d1_16 : decode method_2_code 16 = .ok (.iconst 0, 1) := by decide +kernel
theorem d1_17 : decode method_2_code 17 = .ok (.istore 4, 2) := by decide +kernel
theorem d1_19 : decode method_2_code 19 = .ok (.dconst 0, 1) := by decide +kernel
theorem d1_20 : decode method_2_code 20 = .ok (.dload_n 2, 1) := by decide +kernel
theorem d1_21 : decode method_2_code 21 = .ok (.dsub, 1) := by decide +kernel
theorem d1_22 : decode method_2_code 22 = .ok (.dload_n 0, 1) := by decide +kernel
theorem d1_23 : decode method_2_code 23 = .ok (.dcmp .g, 1) := by decide +kernel
theorem d1_24 : decode method_2_code 24 = .ok (.ifCond .lt 11, 3) := by decide +kernel
theorem d1_27 : decode method_2_code 27 = .ok (.dload_n 0, 1) := by decide +kernel
theorem d1_28 : decode method_2_code 28 = .ok (.dconst 0, 1) := by decide +kernel
theorem d1_29 : decode method_2_code 29 = .ok (.dload_n 2, 1) := by decide +kernel
theorem d1_30 : decode method_2_code 30 = .ok (.dsub, 1) := by decide +kernel
theorem d1_31 : decode method_2_code 31 = .ok (.dcmp .l, 1) := by decide +kernel
theorem d1_32 : decode method_2_code 32 = .ok (.ifCond .ne 7, 3) := by decide +kernel
theorem d1_35 : decode method_2_code 35 = .ok (.iconst 1, 1) := by decide +kernel
theorem d1_36 : decode method_2_code 36 = .ok (.goto 4, 3) := by decide +kernel
theorem d1_39 : decode method_2_code 39 = .ok (.iconst 0, 1) := by decide +kernel
theorem d1_40 : decode method_2_code 40 = .ok (.istore 5, 2) := by decide +kernel
theorem d1_42 : decode method_2_code 42 = .ok (.iload 4, 2) := by decide +kernel
theorem d1_44 : decode method_2_code 44 = .ok (.ifCond .eq 12, 3) := by decide +kernel
theorem d1_47 : decode method_2_code 47 = .ok (.iload 5, 2) := by decide +kernel
theorem d1_49 : decode method_2_code 49 = .ok (.ifCond .eq 7, 3) := by decide +kernel
theorem d1_52 : decode method_2_code 52 = .ok (.iconst 1, 1) := by decide +kernel
theorem d1_53 : decode method_2_code 53 = .ok (.goto 4, 3) := by decide +kernel
theorem d1_56 : decode method_2_code 56 = .ok (.iconst 0, 1) := by decide +kernel
theorem d1_57 : decode method_2_code 57 = .ok (.ireturn, 1) := by decide +kernel
theorem pn_1 : plainName "com/example/envelope/envelope/model/Wgs84IsPositionPinLaw" = true := by first | (simp [plainName, overriddenIn]; done) | decide +kernel
theorem ef_rmWi180 (m : MethodId) (x0 : UInt64) (x1 : UInt64) : entryFrame m #[(.double x0), (.double x1)] 6 = mkF m 0 #[.val (.double x0), .second, .val (.double x1), .second, .unset, .unset] [] := by first | (simp [entryFrame, mkF, argsToLocals, Value.category]; done) | rfl
def Q_rmWi180 (Z : State) (x : UInt64) (h0 : Heap) (n0 : Nat) (v : Option Value) (h : Heap) (L : List Loc) : Prop := ∃ r : Int32, v = some (.int r) ∧ Fr n0 L ∧ h = h0 ∧ (r = if own_in x (4640537203540230144 : UInt64) then (1 : Int32) else (0 : Int32))
set_option maxRecDepth 65536 in
set_option maxHeartbeats 40000000 in
theorem rmWi180 (l : Launch) (Z : State) (a0 : Array Value) (hw : ∀ d ∈ tables_1, d.before a0 Z = true) (ws : List Jvm.Cond) (x : UInt64) (h0 : Heap) (n0 : Nat) (Z0 : n0 ≤ h0.size) (hx0 : (Jvm.Free.Fl.NoNaN64 x)) :
    MetFree l (⟨"com/example/envelope/envelope/model/Wgs84IsPositionPinLaw", "within", "(DD)Z"⟩ : MethodName) (head1 (Jvm.Cond.code (⟨"com/example/envelope/envelope/model/Wgs84IsPositionPinLaw", "within", "(DD)Z"⟩ : MethodName) method_2_code 6 (some .boolean) :: ws) ({ frames := 0, cells := 0, slots := 0, locals := 0 } : Room)) (fun a U => a = #[(.double x), (.double (4640537203540230144 : UInt64))] ∧ Z.Warmed39 U.vm ∧ U.heap = h0) (fun _ _ _ _ _ => True) (fun _ U o U' => ∃ v L, o = .returned v ∧ Q_rmWi180 Z x h0 n0 v U'.heap L ∧ FrameEnd U o U' L ({ frames := 0, cells := 0, slots := 0, locals := 0 } : Room).cells ({ frames := 0, cells := 0, slots := 0, locals := 0 } : Room).slots) := by
  refine MetFree.of_bodySF (plainFor_of_name pn_1) hisR ?_
  intro p e s m args below meth c s₁ Bd hml0 hP hK
  obtain ⟨rfl, hZ, hh⟩ := hP
  have hx := Bd.exec
  have hby := Bd.bytes
  have hml : c.maxLocals = 6 := hml0
  have hown : s.vm.findClass "com/example/envelope/envelope/model/Wgs84IsPositionPinLaw" = some m.cls := findClass_of_methodNamed Bd.named
  have hnm := (name_of_methodNamed Bd.named Bd.method).1
  have X0 : Stand p l e ({ frames := 0, cells := 0, slots := 0, locals := 0 } : Room) s m #[(.double x), (.double (4640537203540230144 : UInt64))] below meth c s₁ [] 0 0 := Stand.of_body Bd
  have e0 : s₁.heap = h0 := by rw [← hh, Bd.state]; rfl
  have N0 := Fr.nil n0
  refine own_enter (ef_rmWi180 m x ((4640537203540230144 : UInt64))) ?_
  have kN := own_n180_key
  refine own_st (fun t_ k_ => XS.dloadN X0.here hx rfl (hb hby d1_0) rfl k_) ?_
  show own_Go p e below s₁ (mkF m 1 #[.val (.double x), .second, .val (.double (4640537203540230144 : UInt64)), .second, .unset, .unset] [(.double x)]) _
  refine own_st (fun t_ k_ => XS.dloadN X0.here hx rfl (hb hby d1_1) rfl k_) ?_
  show own_Go p e below s₁ (mkF m 2 #[.val (.double x), .second, .val (.double (4640537203540230144 : UInt64)), .second, .unset, .unset] [(.double (4640537203540230144 : UInt64)), (.double x)]) _
  refine own_st (fun t_ k_ => XS.dcmpS X0.here hx rfl (hb hby d1_2) rfl rfl k_) ?_
  show own_Go p e below s₁ (mkF m 3 #[.val (.double x), .second, .val (.double (4640537203540230144 : UInt64)), .second, .unset, .unset] [(.int (cmpValue (FP.dcmp x (4640537203540230144 : UInt64)) .g))]) _
  by_cases hc3 : (cmpValue (FP.dcmp x (4640537203540230144 : UInt64)) .g) < (0 : Int32)
  · skip
    refine own_st (fun t_ k_ => XS.ifYes X0.here hx rfl (pc0 := 3) (pc' := 12) rfl (hb hby d1_3) rfl ((if0 _ _).trans (tlt hc3).1) (by decide) (by decide) k_) ?_
    show own_Go p e below s₁ (mkF m 12 #[.val (.double x), .second, .val (.double (4640537203540230144 : UInt64)), .second, .unset, .unset] []) _
    have k1 : FP.Core.dkey x ≤ FP.Core.dkey (4640537203540230144 : UInt64) := Int.le_of_lt ((own_lt_g hx0 own_b180_nn).mp hc3)
    refine own_st (fun t_ k_ => XS.iconst X0.here hx rfl (hb hby d1_12) k_) ?_
    show own_Go p e below s₁ (mkF m 13 #[.val (.double x), .second, .val (.double (4640537203540230144 : UInt64)), .second, .unset, .unset] [(.int (1 : Int32))]) _
    refine own_st (fun t_ k_ => XS.goto X0.here hx rfl (pc0 := 13) (pc' := 17) rfl (hb hby d1_13) (by decide) (by decide) k_) ?_
    show own_Go p e below s₁ (mkF m 17 #[.val (.double x), .second, .val (.double (4640537203540230144 : UInt64)), .second, .unset, .unset] [(.int (1 : Int32))]) _
    refine own_st (fun t_ k_ => XS.istore X0.here hx rfl (hb hby d1_17) rfl (l' := #[.val (.double x), .second, .val (.double (4640537203540230144 : UInt64)), .second, .val (.int (1 : Int32)), .unset]) rfl k_) ?_
    show own_Go p e below s₁ (mkF m 19 #[.val (.double x), .second, .val (.double (4640537203540230144 : UInt64)), .second, .val (.int (1 : Int32)), .unset] []) _
    refine own_st (fun t_ k_ => XS.dconst0 X0.here hx rfl (hb hby d1_19) rfl k_) ?_
    show own_Go p e below s₁ (mkF m 20 #[.val (.double x), .second, .val (.double (4640537203540230144 : UInt64)), .second, .val (.int (1 : Int32)), .unset] [(.double FP.dconst0)]) _
    refine own_st (fun t_ k_ => XS.dloadN X0.here hx rfl (hb hby d1_20) rfl k_) ?_
    show own_Go p e below s₁ (mkF m 21 #[.val (.double x), .second, .val (.double (4640537203540230144 : UInt64)), .second, .val (.int (1 : Int32)), .unset] [(.double (4640537203540230144 : UInt64)), (.double FP.dconst0)]) _
    refine own_st (fun t_ k_ => XS.dsubS X0.here hx rfl (hb hby d1_21) rfl own_n180_nn rfl k_) ?_
    show own_Go p e below s₁ (mkF m 22 #[.val (.double x), .second, .val (.double (4640537203540230144 : UInt64)), .second, .val (.int (1 : Int32)), .unset] [(.double (FP.dsub FP.dconst0 (4640537203540230144 : UInt64)))]) _
    refine own_st (fun t_ k_ => XS.dloadN X0.here hx rfl (hb hby d1_22) rfl k_) ?_
    show own_Go p e below s₁ (mkF m 23 #[.val (.double x), .second, .val (.double (4640537203540230144 : UInt64)), .second, .val (.int (1 : Int32)), .unset] [(.double x), (.double (FP.dsub FP.dconst0 (4640537203540230144 : UInt64)))]) _
    refine own_st (fun t_ k_ => XS.dcmpS X0.here hx rfl (hb hby d1_23) rfl rfl k_) ?_
    show own_Go p e below s₁ (mkF m 24 #[.val (.double x), .second, .val (.double (4640537203540230144 : UInt64)), .second, .val (.int (1 : Int32)), .unset] [(.int (cmpValue (FP.dcmp (FP.dsub FP.dconst0 (4640537203540230144 : UInt64)) x) .g))]) _
    by_cases hc24 : (cmpValue (FP.dcmp (FP.dsub FP.dconst0 (4640537203540230144 : UInt64)) x) .g) < (0 : Int32)
    · skip
      refine own_st (fun t_ k_ => XS.ifYes X0.here hx rfl (pc0 := 24) (pc' := 35) rfl (hb hby d1_24) rfl ((if0 _ _).trans (tlt hc24).1) (by decide) (by decide) k_) ?_
      show own_Go p e below s₁ (mkF m 35 #[.val (.double x), .second, .val (.double (4640537203540230144 : UInt64)), .second, .val (.int (1 : Int32)), .unset] []) _
      have k2 : -FP.Core.dkey (4640537203540230144 : UInt64) ≤ FP.Core.dkey x := by have := (own_lt_g own_n180_nn hx0).mp hc24; omega
      refine own_st (fun t_ k_ => XS.iconst X0.here hx rfl (hb hby d1_35) k_) ?_
      show own_Go p e below s₁ (mkF m 36 #[.val (.double x), .second, .val (.double (4640537203540230144 : UInt64)), .second, .val (.int (1 : Int32)), .unset] [(.int (1 : Int32))]) _
      refine own_st (fun t_ k_ => XS.goto X0.here hx rfl (pc0 := 36) (pc' := 40) rfl (hb hby d1_36) (by decide) (by decide) k_) ?_
      show own_Go p e below s₁ (mkF m 40 #[.val (.double x), .second, .val (.double (4640537203540230144 : UInt64)), .second, .val (.int (1 : Int32)), .unset] [(.int (1 : Int32))]) _
      refine own_st (fun t_ k_ => XS.istore X0.here hx rfl (hb hby d1_40) rfl (l' := #[.val (.double x), .second, .val (.double (4640537203540230144 : UInt64)), .second, .val (.int (1 : Int32)), .val (.int (1 : Int32))]) rfl k_) ?_
      show own_Go p e below s₁ (mkF m 42 #[.val (.double x), .second, .val (.double (4640537203540230144 : UInt64)), .second, .val (.int (1 : Int32)), .val (.int (1 : Int32))] []) _
      refine own_st (fun t_ k_ => XS.iload X0.here hx rfl (hb hby d1_42) rfl k_) ?_
      show own_Go p e below s₁ (mkF m 44 #[.val (.double x), .second, .val (.double (4640537203540230144 : UInt64)), .second, .val (.int (1 : Int32)), .val (.int (1 : Int32))] [(.int (1 : Int32))]) _
      refine own_st (fun t_ k_ => XS.ifNo X0.here hx rfl (hb hby d1_44) rfl (by decide) k_) ?_
      show own_Go p e below s₁ (mkF m 47 #[.val (.double x), .second, .val (.double (4640537203540230144 : UInt64)), .second, .val (.int (1 : Int32)), .val (.int (1 : Int32))] []) _
      refine own_st (fun t_ k_ => XS.iload X0.here hx rfl (hb hby d1_47) rfl k_) ?_
      show own_Go p e below s₁ (mkF m 49 #[.val (.double x), .second, .val (.double (4640537203540230144 : UInt64)), .second, .val (.int (1 : Int32)), .val (.int (1 : Int32))] [(.int (1 : Int32))]) _
      refine own_st (fun t_ k_ => XS.ifNo X0.here hx rfl (hb hby d1_49) rfl (by decide) k_) ?_
      show own_Go p e below s₁ (mkF m 52 #[.val (.double x), .second, .val (.double (4640537203540230144 : UInt64)), .second, .val (.int (1 : Int32)), .val (.int (1 : Int32))] []) _
      refine own_st (fun t_ k_ => XS.iconst X0.here hx rfl (hb hby d1_52) k_) ?_
      show own_Go p e below s₁ (mkF m 53 #[.val (.double x), .second, .val (.double (4640537203540230144 : UInt64)), .second, .val (.int (1 : Int32)), .val (.int (1 : Int32))] [(.int (1 : Int32))]) _
      refine own_st (fun t_ k_ => XS.goto X0.here hx rfl (pc0 := 53) (pc' := 57) rfl (hb hby d1_53) (by decide) (by decide) k_) ?_
      show own_Go p e below s₁ (mkF m 57 #[.val (.double x), .second, .val (.double (4640537203540230144 : UInt64)), .second, .val (.int (1 : Int32)), .val (.int (1 : Int32))] [(.int (1 : Int32))]) _
      obtain ⟨fs, hr, hrun, hended, hW, hsame⟩ := X0.leave (v := some (.int (1 : Int32))) (fun h => by rw [Bd.returns] at h; cases h)
      refine own_fin (retN X0 hx (t := .boolean) Bd.returns (by simp) (hb hby d1_57) hr) ⟨hrun, hended, _, _, rfl, ?_, ⟨_, rfl⟩, hW, hsame.mono (by decide) (by decide)⟩
      show Q_rmWi180 Z x h0 n0 _ s₁.heap _
      rw [e0]
      exact ⟨(1 : Int32), rfl, N0, rfl, ((if_pos ⟨k1, k2⟩).symm)⟩
    · skip
      refine own_st (fun t_ k_ => XS.ifNo X0.here hx rfl (hb hby d1_24) rfl ((if0 _ _).trans (flt hc24).1) k_) ?_
      show own_Go p e below s₁ (mkF m 27 #[.val (.double x), .second, .val (.double (4640537203540230144 : UInt64)), .second, .val (.int (1 : Int32)), .unset] []) _
      refine own_st (fun t_ k_ => XS.dloadN X0.here hx rfl (hb hby d1_27) rfl k_) ?_
      show own_Go p e below s₁ (mkF m 28 #[.val (.double x), .second, .val (.double (4640537203540230144 : UInt64)), .second, .val (.int (1 : Int32)), .unset] [(.double x)]) _
      refine own_st (fun t_ k_ => XS.dconst0 X0.here hx rfl (hb hby d1_28) rfl k_) ?_
      show own_Go p e below s₁ (mkF m 29 #[.val (.double x), .second, .val (.double (4640537203540230144 : UInt64)), .second, .val (.int (1 : Int32)), .unset] [(.double FP.dconst0), (.double x)]) _
      refine own_st (fun t_ k_ => XS.dloadN X0.here hx rfl (hb hby d1_29) rfl k_) ?_
      show own_Go p e below s₁ (mkF m 30 #[.val (.double x), .second, .val (.double (4640537203540230144 : UInt64)), .second, .val (.int (1 : Int32)), .unset] [(.double (4640537203540230144 : UInt64)), (.double FP.dconst0), (.double x)]) _
      refine own_st (fun t_ k_ => XS.dsubS X0.here hx rfl (hb hby d1_30) rfl own_n180_nn rfl k_) ?_
      show own_Go p e below s₁ (mkF m 31 #[.val (.double x), .second, .val (.double (4640537203540230144 : UInt64)), .second, .val (.int (1 : Int32)), .unset] [(.double (FP.dsub FP.dconst0 (4640537203540230144 : UInt64))), (.double x)]) _
      refine own_st (fun t_ k_ => XS.dcmpS X0.here hx rfl (hb hby d1_31) rfl rfl k_) ?_
      show own_Go p e below s₁ (mkF m 32 #[.val (.double x), .second, .val (.double (4640537203540230144 : UInt64)), .second, .val (.int (1 : Int32)), .unset] [(.int (cmpValue (FP.dcmp x (FP.dsub FP.dconst0 (4640537203540230144 : UInt64))) .l))]) _
      by_cases hc32 : (cmpValue (FP.dcmp x (FP.dsub FP.dconst0 (4640537203540230144 : UInt64))) .l) = (0 : Int32)
      · skip
        refine own_st (fun t_ k_ => XS.ifNo X0.here hx rfl (hb hby d1_32) rfl ((if0 _ _).trans (teq hc32).2) k_) ?_
        show own_Go p e below s₁ (mkF m 35 #[.val (.double x), .second, .val (.double (4640537203540230144 : UInt64)), .second, .val (.int (1 : Int32)), .unset] []) _
        have k2 : -FP.Core.dkey (4640537203540230144 : UInt64) ≤ FP.Core.dkey x := by have := (own_eq_l hx0 own_n180_nn).mp hc32; omega
        refine own_st (fun t_ k_ => XS.iconst X0.here hx rfl (hb hby d1_35) k_) ?_
        show own_Go p e below s₁ (mkF m 36 #[.val (.double x), .second, .val (.double (4640537203540230144 : UInt64)), .second, .val (.int (1 : Int32)), .unset] [(.int (1 : Int32))]) _
        refine own_st (fun t_ k_ => XS.goto X0.here hx rfl (pc0 := 36) (pc' := 40) rfl (hb hby d1_36) (by decide) (by decide) k_) ?_
        show own_Go p e below s₁ (mkF m 40 #[.val (.double x), .second, .val (.double (4640537203540230144 : UInt64)), .second, .val (.int (1 : Int32)), .unset] [(.int (1 : Int32))]) _
        refine own_st (fun t_ k_ => XS.istore X0.here hx rfl (hb hby d1_40) rfl (l' := #[.val (.double x), .second, .val (.double (4640537203540230144 : UInt64)), .second, .val (.int (1 : Int32)), .val (.int (1 : Int32))]) rfl k_) ?_
        show own_Go p e below s₁ (mkF m 42 #[.val (.double x), .second, .val (.double (4640537203540230144 : UInt64)), .second, .val (.int (1 : Int32)), .val (.int (1 : Int32))] []) _
        refine own_st (fun t_ k_ => XS.iload X0.here hx rfl (hb hby d1_42) rfl k_) ?_
        show own_Go p e below s₁ (mkF m 44 #[.val (.double x), .second, .val (.double (4640537203540230144 : UInt64)), .second, .val (.int (1 : Int32)), .val (.int (1 : Int32))] [(.int (1 : Int32))]) _
        refine own_st (fun t_ k_ => XS.ifNo X0.here hx rfl (hb hby d1_44) rfl (by decide) k_) ?_
        show own_Go p e below s₁ (mkF m 47 #[.val (.double x), .second, .val (.double (4640537203540230144 : UInt64)), .second, .val (.int (1 : Int32)), .val (.int (1 : Int32))] []) _
        refine own_st (fun t_ k_ => XS.iload X0.here hx rfl (hb hby d1_47) rfl k_) ?_
        show own_Go p e below s₁ (mkF m 49 #[.val (.double x), .second, .val (.double (4640537203540230144 : UInt64)), .second, .val (.int (1 : Int32)), .val (.int (1 : Int32))] [(.int (1 : Int32))]) _
        refine own_st (fun t_ k_ => XS.ifNo X0.here hx rfl (hb hby d1_49) rfl (by decide) k_) ?_
        show own_Go p e below s₁ (mkF m 52 #[.val (.double x), .second, .val (.double (4640537203540230144 : UInt64)), .second, .val (.int (1 : Int32)), .val (.int (1 : Int32))] []) _
        refine own_st (fun t_ k_ => XS.iconst X0.here hx rfl (hb hby d1_52) k_) ?_
        show own_Go p e below s₁ (mkF m 53 #[.val (.double x), .second, .val (.double (4640537203540230144 : UInt64)), .second, .val (.int (1 : Int32)), .val (.int (1 : Int32))] [(.int (1 : Int32))]) _
        refine own_st (fun t_ k_ => XS.goto X0.here hx rfl (pc0 := 53) (pc' := 57) rfl (hb hby d1_53) (by decide) (by decide) k_) ?_
        show own_Go p e below s₁ (mkF m 57 #[.val (.double x), .second, .val (.double (4640537203540230144 : UInt64)), .second, .val (.int (1 : Int32)), .val (.int (1 : Int32))] [(.int (1 : Int32))]) _
        obtain ⟨fs, hr, hrun, hended, hW, hsame⟩ := X0.leave (v := some (.int (1 : Int32))) (fun h => by rw [Bd.returns] at h; cases h)
        refine own_fin (retN X0 hx (t := .boolean) Bd.returns (by simp) (hb hby d1_57) hr) ⟨hrun, hended, _, _, rfl, ?_, ⟨_, rfl⟩, hW, hsame.mono (by decide) (by decide)⟩
        show Q_rmWi180 Z x h0 n0 _ s₁.heap _
        rw [e0]
        exact ⟨(1 : Int32), rfl, N0, rfl, ((if_pos ⟨k1, k2⟩).symm)⟩
      · skip
        refine own_st (fun t_ k_ => XS.ifYes X0.here hx rfl (pc0 := 32) (pc' := 39) rfl (hb hby d1_32) rfl ((if0 _ _).trans (feq hc32).2) (by decide) (by decide) k_) ?_
        show own_Go p e below s₁ (mkF m 39 #[.val (.double x), .second, .val (.double (4640537203540230144 : UInt64)), .second, .val (.int (1 : Int32)), .unset] []) _
        have k2 : ¬ -FP.Core.dkey (4640537203540230144 : UInt64) ≤ FP.Core.dkey x := fun h => by have u1 : ¬ FP.Core.dkey (FP.dsub FP.dconst0 (4640537203540230144 : UInt64)) < FP.Core.dkey x := fun h2 => hc24 ((own_lt_g own_n180_nn hx0).mpr h2); have u2 : ¬ FP.Core.dkey x = FP.Core.dkey (FP.dsub FP.dconst0 (4640537203540230144 : UInt64)) := fun h2 => hc32 ((own_eq_l hx0 own_n180_nn).mpr h2); omega
        refine own_st (fun t_ k_ => XS.iconst X0.here hx rfl (hb hby d1_39) k_) ?_
        show own_Go p e below s₁ (mkF m 40 #[.val (.double x), .second, .val (.double (4640537203540230144 : UInt64)), .second, .val (.int (1 : Int32)), .unset] [(.int (0 : Int32))]) _
        refine own_st (fun t_ k_ => XS.istore X0.here hx rfl (hb hby d1_40) rfl (l' := #[.val (.double x), .second, .val (.double (4640537203540230144 : UInt64)), .second, .val (.int (1 : Int32)), .val (.int (0 : Int32))]) rfl k_) ?_
        show own_Go p e below s₁ (mkF m 42 #[.val (.double x), .second, .val (.double (4640537203540230144 : UInt64)), .second, .val (.int (1 : Int32)), .val (.int (0 : Int32))] []) _
        refine own_st (fun t_ k_ => XS.iload X0.here hx rfl (hb hby d1_42) rfl k_) ?_
        show own_Go p e below s₁ (mkF m 44 #[.val (.double x), .second, .val (.double (4640537203540230144 : UInt64)), .second, .val (.int (1 : Int32)), .val (.int (0 : Int32))] [(.int (1 : Int32))]) _
        refine own_st (fun t_ k_ => XS.ifNo X0.here hx rfl (hb hby d1_44) rfl (by decide) k_) ?_
        show own_Go p e below s₁ (mkF m 47 #[.val (.double x), .second, .val (.double (4640537203540230144 : UInt64)), .second, .val (.int (1 : Int32)), .val (.int (0 : Int32))] []) _
        refine own_st (fun t_ k_ => XS.iload X0.here hx rfl (hb hby d1_47) rfl k_) ?_
        show own_Go p e below s₁ (mkF m 49 #[.val (.double x), .second, .val (.double (4640537203540230144 : UInt64)), .second, .val (.int (1 : Int32)), .val (.int (0 : Int32))] [(.int (0 : Int32))]) _
        refine own_st (fun t_ k_ => XS.ifYes X0.here hx rfl (pc0 := 49) (pc' := 56) rfl (hb hby d1_49) rfl (by decide) (by decide) (by decide) k_) ?_
        show own_Go p e below s₁ (mkF m 56 #[.val (.double x), .second, .val (.double (4640537203540230144 : UInt64)), .second, .val (.int (1 : Int32)), .val (.int (0 : Int32))] []) _
        refine own_st (fun t_ k_ => XS.iconst X0.here hx rfl (hb hby d1_56) k_) ?_
        show own_Go p e below s₁ (mkF m 57 #[.val (.double x), .second, .val (.double (4640537203540230144 : UInt64)), .second, .val (.int (1 : Int32)), .val (.int (0 : Int32))] [(.int (0 : Int32))]) _
        obtain ⟨fs, hr, hrun, hended, hW, hsame⟩ := X0.leave (v := some (.int (0 : Int32))) (fun h => by rw [Bd.returns] at h; cases h)
        refine own_fin (retN X0 hx (t := .boolean) Bd.returns (by simp) (hb hby d1_57) hr) ⟨hrun, hended, _, _, rfl, ?_, ⟨_, rfl⟩, hW, hsame.mono (by decide) (by decide)⟩
        show Q_rmWi180 Z x h0 n0 _ s₁.heap _
        rw [e0]
        exact ⟨(0 : Int32), rfl, N0, rfl, ((if_neg (fun h => k2 h.2)).symm)⟩
  · skip
    refine own_st (fun t_ k_ => XS.ifNo X0.here hx rfl (hb hby d1_3) rfl ((if0 _ _).trans (flt hc3).1) k_) ?_
    show own_Go p e below s₁ (mkF m 6 #[.val (.double x), .second, .val (.double (4640537203540230144 : UInt64)), .second, .unset, .unset] []) _
    refine own_st (fun t_ k_ => XS.dloadN X0.here hx rfl (hb hby d1_6) rfl k_) ?_
    show own_Go p e below s₁ (mkF m 7 #[.val (.double x), .second, .val (.double (4640537203540230144 : UInt64)), .second, .unset, .unset] [(.double x)]) _
    refine own_st (fun t_ k_ => XS.dloadN X0.here hx rfl (hb hby d1_7) rfl k_) ?_
    show own_Go p e below s₁ (mkF m 8 #[.val (.double x), .second, .val (.double (4640537203540230144 : UInt64)), .second, .unset, .unset] [(.double (4640537203540230144 : UInt64)), (.double x)]) _
    refine own_st (fun t_ k_ => XS.dcmpS X0.here hx rfl (hb hby d1_8) rfl rfl k_) ?_
    show own_Go p e below s₁ (mkF m 9 #[.val (.double x), .second, .val (.double (4640537203540230144 : UInt64)), .second, .unset, .unset] [(.int (cmpValue (FP.dcmp x (4640537203540230144 : UInt64)) .l))]) _
    by_cases hc9 : (cmpValue (FP.dcmp x (4640537203540230144 : UInt64)) .l) = (0 : Int32)
    · skip
      refine own_st (fun t_ k_ => XS.ifNo X0.here hx rfl (hb hby d1_9) rfl ((if0 _ _).trans (teq hc9).2) k_) ?_
      show own_Go p e below s₁ (mkF m 12 #[.val (.double x), .second, .val (.double (4640537203540230144 : UInt64)), .second, .unset, .unset] []) _
      have k1 : FP.Core.dkey x ≤ FP.Core.dkey (4640537203540230144 : UInt64) := Int.le_of_eq ((own_eq_l hx0 own_b180_nn).mp hc9)
      refine own_st (fun t_ k_ => XS.iconst X0.here hx rfl (hb hby d1_12) k_) ?_
      show own_Go p e below s₁ (mkF m 13 #[.val (.double x), .second, .val (.double (4640537203540230144 : UInt64)), .second, .unset, .unset] [(.int (1 : Int32))]) _
      refine own_st (fun t_ k_ => XS.goto X0.here hx rfl (pc0 := 13) (pc' := 17) rfl (hb hby d1_13) (by decide) (by decide) k_) ?_
      show own_Go p e below s₁ (mkF m 17 #[.val (.double x), .second, .val (.double (4640537203540230144 : UInt64)), .second, .unset, .unset] [(.int (1 : Int32))]) _
      refine own_st (fun t_ k_ => XS.istore X0.here hx rfl (hb hby d1_17) rfl (l' := #[.val (.double x), .second, .val (.double (4640537203540230144 : UInt64)), .second, .val (.int (1 : Int32)), .unset]) rfl k_) ?_
      show own_Go p e below s₁ (mkF m 19 #[.val (.double x), .second, .val (.double (4640537203540230144 : UInt64)), .second, .val (.int (1 : Int32)), .unset] []) _
      refine own_st (fun t_ k_ => XS.dconst0 X0.here hx rfl (hb hby d1_19) rfl k_) ?_
      show own_Go p e below s₁ (mkF m 20 #[.val (.double x), .second, .val (.double (4640537203540230144 : UInt64)), .second, .val (.int (1 : Int32)), .unset] [(.double FP.dconst0)]) _
      refine own_st (fun t_ k_ => XS.dloadN X0.here hx rfl (hb hby d1_20) rfl k_) ?_
      show own_Go p e below s₁ (mkF m 21 #[.val (.double x), .second, .val (.double (4640537203540230144 : UInt64)), .second, .val (.int (1 : Int32)), .unset] [(.double (4640537203540230144 : UInt64)), (.double FP.dconst0)]) _
      refine own_st (fun t_ k_ => XS.dsubS X0.here hx rfl (hb hby d1_21) rfl own_n180_nn rfl k_) ?_
      show own_Go p e below s₁ (mkF m 22 #[.val (.double x), .second, .val (.double (4640537203540230144 : UInt64)), .second, .val (.int (1 : Int32)), .unset] [(.double (FP.dsub FP.dconst0 (4640537203540230144 : UInt64)))]) _
      refine own_st (fun t_ k_ => XS.dloadN X0.here hx rfl (hb hby d1_22) rfl k_) ?_
      show own_Go p e below s₁ (mkF m 23 #[.val (.double x), .second, .val (.double (4640537203540230144 : UInt64)), .second, .val (.int (1 : Int32)), .unset] [(.double x), (.double (FP.dsub FP.dconst0 (4640537203540230144 : UInt64)))]) _
      refine own_st (fun t_ k_ => XS.dcmpS X0.here hx rfl (hb hby d1_23) rfl rfl k_) ?_
      show own_Go p e below s₁ (mkF m 24 #[.val (.double x), .second, .val (.double (4640537203540230144 : UInt64)), .second, .val (.int (1 : Int32)), .unset] [(.int (cmpValue (FP.dcmp (FP.dsub FP.dconst0 (4640537203540230144 : UInt64)) x) .g))]) _
      by_cases hc24 : (cmpValue (FP.dcmp (FP.dsub FP.dconst0 (4640537203540230144 : UInt64)) x) .g) < (0 : Int32)
      · skip
        refine own_st (fun t_ k_ => XS.ifYes X0.here hx rfl (pc0 := 24) (pc' := 35) rfl (hb hby d1_24) rfl ((if0 _ _).trans (tlt hc24).1) (by decide) (by decide) k_) ?_
        show own_Go p e below s₁ (mkF m 35 #[.val (.double x), .second, .val (.double (4640537203540230144 : UInt64)), .second, .val (.int (1 : Int32)), .unset] []) _
        have k2 : -FP.Core.dkey (4640537203540230144 : UInt64) ≤ FP.Core.dkey x := by have := (own_lt_g own_n180_nn hx0).mp hc24; omega
        refine own_st (fun t_ k_ => XS.iconst X0.here hx rfl (hb hby d1_35) k_) ?_
        show own_Go p e below s₁ (mkF m 36 #[.val (.double x), .second, .val (.double (4640537203540230144 : UInt64)), .second, .val (.int (1 : Int32)), .unset] [(.int (1 : Int32))]) _
        refine own_st (fun t_ k_ => XS.goto X0.here hx rfl (pc0 := 36) (pc' := 40) rfl (hb hby d1_36) (by decide) (by decide) k_) ?_
        show own_Go p e below s₁ (mkF m 40 #[.val (.double x), .second, .val (.double (4640537203540230144 : UInt64)), .second, .val (.int (1 : Int32)), .unset] [(.int (1 : Int32))]) _
        refine own_st (fun t_ k_ => XS.istore X0.here hx rfl (hb hby d1_40) rfl (l' := #[.val (.double x), .second, .val (.double (4640537203540230144 : UInt64)), .second, .val (.int (1 : Int32)), .val (.int (1 : Int32))]) rfl k_) ?_
        show own_Go p e below s₁ (mkF m 42 #[.val (.double x), .second, .val (.double (4640537203540230144 : UInt64)), .second, .val (.int (1 : Int32)), .val (.int (1 : Int32))] []) _
        refine own_st (fun t_ k_ => XS.iload X0.here hx rfl (hb hby d1_42) rfl k_) ?_
        show own_Go p e below s₁ (mkF m 44 #[.val (.double x), .second, .val (.double (4640537203540230144 : UInt64)), .second, .val (.int (1 : Int32)), .val (.int (1 : Int32))] [(.int (1 : Int32))]) _
        refine own_st (fun t_ k_ => XS.ifNo X0.here hx rfl (hb hby d1_44) rfl (by decide) k_) ?_
        show own_Go p e below s₁ (mkF m 47 #[.val (.double x), .second, .val (.double (4640537203540230144 : UInt64)), .second, .val (.int (1 : Int32)), .val (.int (1 : Int32))] []) _
        refine own_st (fun t_ k_ => XS.iload X0.here hx rfl (hb hby d1_47) rfl k_) ?_
        show own_Go p e below s₁ (mkF m 49 #[.val (.double x), .second, .val (.double (4640537203540230144 : UInt64)), .second, .val (.int (1 : Int32)), .val (.int (1 : Int32))] [(.int (1 : Int32))]) _
        refine own_st (fun t_ k_ => XS.ifNo X0.here hx rfl (hb hby d1_49) rfl (by decide) k_) ?_
        show own_Go p e below s₁ (mkF m 52 #[.val (.double x), .second, .val (.double (4640537203540230144 : UInt64)), .second, .val (.int (1 : Int32)), .val (.int (1 : Int32))] []) _
        refine own_st (fun t_ k_ => XS.iconst X0.here hx rfl (hb hby d1_52) k_) ?_
        show own_Go p e below s₁ (mkF m 53 #[.val (.double x), .second, .val (.double (4640537203540230144 : UInt64)), .second, .val (.int (1 : Int32)), .val (.int (1 : Int32))] [(.int (1 : Int32))]) _
        refine own_st (fun t_ k_ => XS.goto X0.here hx rfl (pc0 := 53) (pc' := 57) rfl (hb hby d1_53) (by decide) (by decide) k_) ?_
        show own_Go p e below s₁ (mkF m 57 #[.val (.double x), .second, .val (.double (4640537203540230144 : UInt64)), .second, .val (.int (1 : Int32)), .val (.int (1 : Int32))] [(.int (1 : Int32))]) _
        obtain ⟨fs, hr, hrun, hended, hW, hsame⟩ := X0.leave (v := some (.int (1 : Int32))) (fun h => by rw [Bd.returns] at h; cases h)
        refine own_fin (retN X0 hx (t := .boolean) Bd.returns (by simp) (hb hby d1_57) hr) ⟨hrun, hended, _, _, rfl, ?_, ⟨_, rfl⟩, hW, hsame.mono (by decide) (by decide)⟩
        show Q_rmWi180 Z x h0 n0 _ s₁.heap _
        rw [e0]
        exact ⟨(1 : Int32), rfl, N0, rfl, ((if_pos ⟨k1, k2⟩).symm)⟩
      · skip
        refine own_st (fun t_ k_ => XS.ifNo X0.here hx rfl (hb hby d1_24) rfl ((if0 _ _).trans (flt hc24).1) k_) ?_
        show own_Go p e below s₁ (mkF m 27 #[.val (.double x), .second, .val (.double (4640537203540230144 : UInt64)), .second, .val (.int (1 : Int32)), .unset] []) _
        refine own_st (fun t_ k_ => XS.dloadN X0.here hx rfl (hb hby d1_27) rfl k_) ?_
        show own_Go p e below s₁ (mkF m 28 #[.val (.double x), .second, .val (.double (4640537203540230144 : UInt64)), .second, .val (.int (1 : Int32)), .unset] [(.double x)]) _
        refine own_st (fun t_ k_ => XS.dconst0 X0.here hx rfl (hb hby d1_28) rfl k_) ?_
        show own_Go p e below s₁ (mkF m 29 #[.val (.double x), .second, .val (.double (4640537203540230144 : UInt64)), .second, .val (.int (1 : Int32)), .unset] [(.double FP.dconst0), (.double x)]) _
        refine own_st (fun t_ k_ => XS.dloadN X0.here hx rfl (hb hby d1_29) rfl k_) ?_
        show own_Go p e below s₁ (mkF m 30 #[.val (.double x), .second, .val (.double (4640537203540230144 : UInt64)), .second, .val (.int (1 : Int32)), .unset] [(.double (4640537203540230144 : UInt64)), (.double FP.dconst0), (.double x)]) _
        refine own_st (fun t_ k_ => XS.dsubS X0.here hx rfl (hb hby d1_30) rfl own_n180_nn rfl k_) ?_
        show own_Go p e below s₁ (mkF m 31 #[.val (.double x), .second, .val (.double (4640537203540230144 : UInt64)), .second, .val (.int (1 : Int32)), .unset] [(.double (FP.dsub FP.dconst0 (4640537203540230144 : UInt64))), (.double x)]) _
        refine own_st (fun t_ k_ => XS.dcmpS X0.here hx rfl (hb hby d1_31) rfl rfl k_) ?_
        show own_Go p e below s₁ (mkF m 32 #[.val (.double x), .second, .val (.double (4640537203540230144 : UInt64)), .second, .val (.int (1 : Int32)), .unset] [(.int (cmpValue (FP.dcmp x (FP.dsub FP.dconst0 (4640537203540230144 : UInt64))) .l))]) _
        by_cases hc32 : (cmpValue (FP.dcmp x (FP.dsub FP.dconst0 (4640537203540230144 : UInt64))) .l) = (0 : Int32)
        · skip
          refine own_st (fun t_ k_ => XS.ifNo X0.here hx rfl (hb hby d1_32) rfl ((if0 _ _).trans (teq hc32).2) k_) ?_
          show own_Go p e below s₁ (mkF m 35 #[.val (.double x), .second, .val (.double (4640537203540230144 : UInt64)), .second, .val (.int (1 : Int32)), .unset] []) _
          have k2 : -FP.Core.dkey (4640537203540230144 : UInt64) ≤ FP.Core.dkey x := by have := (own_eq_l hx0 own_n180_nn).mp hc32; omega
          refine own_st (fun t_ k_ => XS.iconst X0.here hx rfl (hb hby d1_35) k_) ?_
          show own_Go p e below s₁ (mkF m 36 #[.val (.double x), .second, .val (.double (4640537203540230144 : UInt64)), .second, .val (.int (1 : Int32)), .unset] [(.int (1 : Int32))]) _
          refine own_st (fun t_ k_ => XS.goto X0.here hx rfl (pc0 := 36) (pc' := 40) rfl (hb hby d1_36) (by decide) (by decide) k_) ?_
          show own_Go p e below s₁ (mkF m 40 #[.val (.double x), .second, .val (.double (4640537203540230144 : UInt64)), .second, .val (.int (1 : Int32)), .unset] [(.int (1 : Int32))]) _
          refine own_st (fun t_ k_ => XS.istore X0.here hx rfl (hb hby d1_40) rfl (l' := #[.val (.double x), .second, .val (.double (4640537203540230144 : UInt64)), .second, .val (.int (1 : Int32)), .val (.int (1 : Int32))]) rfl k_) ?_
          show own_Go p e below s₁ (mkF m 42 #[.val (.double x), .second, .val (.double (4640537203540230144 : UInt64)), .second, .val (.int (1 : Int32)), .val (.int (1 : Int32))] []) _
          refine own_st (fun t_ k_ => XS.iload X0.here hx rfl (hb hby d1_42) rfl k_) ?_
          show own_Go p e below s₁ (mkF m 44 #[.val (.double x), .second, .val (.double (4640537203540230144 : UInt64)), .second, .val (.int (1 : Int32)), .val (.int (1 : Int32))] [(.int (1 : Int32))]) _
          refine own_st (fun t_ k_ => XS.ifNo X0.here hx rfl (hb hby d1_44) rfl (by decide) k_) ?_
          show own_Go p e below s₁ (mkF m 47 #[.val (.double x), .second, .val (.double (4640537203540230144 : UInt64)), .second, .val (.int (1 : Int32)), .val (.int (1 : Int32))] []) _
          refine own_st (fun t_ k_ => XS.iload X0.here hx rfl (hb hby d1_47) rfl k_) ?_
          show own_Go p e below s₁ (mkF m 49 #[.val (.double x), .second, .val (.double (4640537203540230144 : UInt64)), .second, .val (.int (1 : Int32)), .val (.int (1 : Int32))] [(.int (1 : Int32))]) _
          refine own_st (fun t_ k_ => XS.ifNo X0.here hx rfl (hb hby d1_49) rfl (by decide) k_) ?_
          show own_Go p e below s₁ (mkF m 52 #[.val (.double x), .second, .val (.double (4640537203540230144 : UInt64)), .second, .val (.int (1 : Int32)), .val (.int (1 : Int32))] []) _
          refine own_st (fun t_ k_ => XS.iconst X0.here hx rfl (hb hby d1_52) k_) ?_
          show own_Go p e below s₁ (mkF m 53 #[.val (.double x), .second, .val (.double (4640537203540230144 : UInt64)), .second, .val (.int (1 : Int32)), .val (.int (1 : Int32))] [(.int (1 : Int32))]) _
          refine own_st (fun t_ k_ => XS.goto X0.here hx rfl (pc0 := 53) (pc' := 57) rfl (hb hby d1_53) (by decide) (by decide) k_) ?_
          show own_Go p e below s₁ (mkF m 57 #[.val (.double x), .second, .val (.double (4640537203540230144 : UInt64)), .second, .val (.int (1 : Int32)), .val (.int (1 : Int32))] [(.int (1 : Int32))]) _
          obtain ⟨fs, hr, hrun, hended, hW, hsame⟩ := X0.leave (v := some (.int (1 : Int32))) (fun h => by rw [Bd.returns] at h; cases h)
          refine own_fin (retN X0 hx (t := .boolean) Bd.returns (by simp) (hb hby d1_57) hr) ⟨hrun, hended, _, _, rfl, ?_, ⟨_, rfl⟩, hW, hsame.mono (by decide) (by decide)⟩
          show Q_rmWi180 Z x h0 n0 _ s₁.heap _
          rw [e0]
          exact ⟨(1 : Int32), rfl, N0, rfl, ((if_pos ⟨k1, k2⟩).symm)⟩
        · skip
          refine own_st (fun t_ k_ => XS.ifYes X0.here hx rfl (pc0 := 32) (pc' := 39) rfl (hb hby d1_32) rfl ((if0 _ _).trans (feq hc32).2) (by decide) (by decide) k_) ?_
          show own_Go p e below s₁ (mkF m 39 #[.val (.double x), .second, .val (.double (4640537203540230144 : UInt64)), .second, .val (.int (1 : Int32)), .unset] []) _
          have k2 : ¬ -FP.Core.dkey (4640537203540230144 : UInt64) ≤ FP.Core.dkey x := fun h => by have u1 : ¬ FP.Core.dkey (FP.dsub FP.dconst0 (4640537203540230144 : UInt64)) < FP.Core.dkey x := fun h2 => hc24 ((own_lt_g own_n180_nn hx0).mpr h2); have u2 : ¬ FP.Core.dkey x = FP.Core.dkey (FP.dsub FP.dconst0 (4640537203540230144 : UInt64)) := fun h2 => hc32 ((own_eq_l hx0 own_n180_nn).mpr h2); omega
          refine own_st (fun t_ k_ => XS.iconst X0.here hx rfl (hb hby d1_39) k_) ?_
          show own_Go p e below s₁ (mkF m 40 #[.val (.double x), .second, .val (.double (4640537203540230144 : UInt64)), .second, .val (.int (1 : Int32)), .unset] [(.int (0 : Int32))]) _
          refine own_st (fun t_ k_ => XS.istore X0.here hx rfl (hb hby d1_40) rfl (l' := #[.val (.double x), .second, .val (.double (4640537203540230144 : UInt64)), .second, .val (.int (1 : Int32)), .val (.int (0 : Int32))]) rfl k_) ?_
          show own_Go p e below s₁ (mkF m 42 #[.val (.double x), .second, .val (.double (4640537203540230144 : UInt64)), .second, .val (.int (1 : Int32)), .val (.int (0 : Int32))] []) _
          refine own_st (fun t_ k_ => XS.iload X0.here hx rfl (hb hby d1_42) rfl k_) ?_
          show own_Go p e below s₁ (mkF m 44 #[.val (.double x), .second, .val (.double (4640537203540230144 : UInt64)), .second, .val (.int (1 : Int32)), .val (.int (0 : Int32))] [(.int (1 : Int32))]) _
          refine own_st (fun t_ k_ => XS.ifNo X0.here hx rfl (hb hby d1_44) rfl (by decide) k_) ?_
          show own_Go p e below s₁ (mkF m 47 #[.val (.double x), .second, .val (.double (4640537203540230144 : UInt64)), .second, .val (.int (1 : Int32)), .val (.int (0 : Int32))] []) _
          refine own_st (fun t_ k_ => XS.iload X0.here hx rfl (hb hby d1_47) rfl k_) ?_
          show own_Go p e below s₁ (mkF m 49 #[.val (.double x), .second, .val (.double (4640537203540230144 : UInt64)), .second, .val (.int (1 : Int32)), .val (.int (0 : Int32))] [(.int (0 : Int32))]) _
          refine own_st (fun t_ k_ => XS.ifYes X0.here hx rfl (pc0 := 49) (pc' := 56) rfl (hb hby d1_49) rfl (by decide) (by decide) (by decide) k_) ?_
          show own_Go p e below s₁ (mkF m 56 #[.val (.double x), .second, .val (.double (4640537203540230144 : UInt64)), .second, .val (.int (1 : Int32)), .val (.int (0 : Int32))] []) _
          refine own_st (fun t_ k_ => XS.iconst X0.here hx rfl (hb hby d1_56) k_) ?_
          show own_Go p e below s₁ (mkF m 57 #[.val (.double x), .second, .val (.double (4640537203540230144 : UInt64)), .second, .val (.int (1 : Int32)), .val (.int (0 : Int32))] [(.int (0 : Int32))]) _
          obtain ⟨fs, hr, hrun, hended, hW, hsame⟩ := X0.leave (v := some (.int (0 : Int32))) (fun h => by rw [Bd.returns] at h; cases h)
          refine own_fin (retN X0 hx (t := .boolean) Bd.returns (by simp) (hb hby d1_57) hr) ⟨hrun, hended, _, _, rfl, ?_, ⟨_, rfl⟩, hW, hsame.mono (by decide) (by decide)⟩
          show Q_rmWi180 Z x h0 n0 _ s₁.heap _
          rw [e0]
          exact ⟨(0 : Int32), rfl, N0, rfl, ((if_neg (fun h => k2 h.2)).symm)⟩
    · skip
      refine own_st (fun t_ k_ => XS.ifYes X0.here hx rfl (pc0 := 9) (pc' := 16) rfl (hb hby d1_9) rfl ((if0 _ _).trans (feq hc9).2) (by decide) (by decide) k_) ?_
      show own_Go p e below s₁ (mkF m 16 #[.val (.double x), .second, .val (.double (4640537203540230144 : UInt64)), .second, .unset, .unset] []) _
      have k1 : ¬ FP.Core.dkey x ≤ FP.Core.dkey (4640537203540230144 : UInt64) := fun h => by have u1 : ¬ FP.Core.dkey x < FP.Core.dkey (4640537203540230144 : UInt64) := fun h2 => hc3 ((own_lt_g hx0 own_b180_nn).mpr h2); have u2 : ¬ FP.Core.dkey x = FP.Core.dkey (4640537203540230144 : UInt64) := fun h2 => hc9 ((own_eq_l hx0 own_b180_nn).mpr h2); omega
      refine own_st (fun t_ k_ => XS.iconst X0.here hx rfl (hb hby d1_16) k_) ?_
      show own_Go p e below s₁ (mkF m 17 #[.val (.double x), .second, .val (.double (4640537203540230144 : UInt64)), .second, .unset, .unset] [(.int (0 : Int32))]) _
      refine own_st (fun t_ k_ => XS.istore X0.here hx rfl (hb hby d1_17) rfl (l' := #[.val (.double x), .second, .val (.double (4640537203540230144 : UInt64)), .second, .val (.int (0 : Int32)), .unset]) rfl k_) ?_
      show own_Go p e below s₁ (mkF m 19 #[.val (.double x), .second, .val (.double (4640537203540230144 : UInt64)), .second, .val (.int (0 : Int32)), .unset] []) _
      refine own_st (fun t_ k_ => XS.dconst0 X0.here hx rfl (hb hby d1_19) rfl k_) ?_
      show own_Go p e below s₁ (mkF m 20 #[.val (.double x), .second, .val (.double (4640537203540230144 : UInt64)), .second, .val (.int (0 : Int32)), .unset] [(.double FP.dconst0)]) _
      refine own_st (fun t_ k_ => XS.dloadN X0.here hx rfl (hb hby d1_20) rfl k_) ?_
      show own_Go p e below s₁ (mkF m 21 #[.val (.double x), .second, .val (.double (4640537203540230144 : UInt64)), .second, .val (.int (0 : Int32)), .unset] [(.double (4640537203540230144 : UInt64)), (.double FP.dconst0)]) _
      refine own_st (fun t_ k_ => XS.dsubS X0.here hx rfl (hb hby d1_21) rfl own_n180_nn rfl k_) ?_
      show own_Go p e below s₁ (mkF m 22 #[.val (.double x), .second, .val (.double (4640537203540230144 : UInt64)), .second, .val (.int (0 : Int32)), .unset] [(.double (FP.dsub FP.dconst0 (4640537203540230144 : UInt64)))]) _
      refine own_st (fun t_ k_ => XS.dloadN X0.here hx rfl (hb hby d1_22) rfl k_) ?_
      show own_Go p e below s₁ (mkF m 23 #[.val (.double x), .second, .val (.double (4640537203540230144 : UInt64)), .second, .val (.int (0 : Int32)), .unset] [(.double x), (.double (FP.dsub FP.dconst0 (4640537203540230144 : UInt64)))]) _
      refine own_st (fun t_ k_ => XS.dcmpS X0.here hx rfl (hb hby d1_23) rfl rfl k_) ?_
      show own_Go p e below s₁ (mkF m 24 #[.val (.double x), .second, .val (.double (4640537203540230144 : UInt64)), .second, .val (.int (0 : Int32)), .unset] [(.int (cmpValue (FP.dcmp (FP.dsub FP.dconst0 (4640537203540230144 : UInt64)) x) .g))]) _
      by_cases hc24 : (cmpValue (FP.dcmp (FP.dsub FP.dconst0 (4640537203540230144 : UInt64)) x) .g) < (0 : Int32)
      · skip
        refine own_st (fun t_ k_ => XS.ifYes X0.here hx rfl (pc0 := 24) (pc' := 35) rfl (hb hby d1_24) rfl ((if0 _ _).trans (tlt hc24).1) (by decide) (by decide) k_) ?_
        show own_Go p e below s₁ (mkF m 35 #[.val (.double x), .second, .val (.double (4640537203540230144 : UInt64)), .second, .val (.int (0 : Int32)), .unset] []) _
        have k2 : -FP.Core.dkey (4640537203540230144 : UInt64) ≤ FP.Core.dkey x := by have := (own_lt_g own_n180_nn hx0).mp hc24; omega
        refine own_st (fun t_ k_ => XS.iconst X0.here hx rfl (hb hby d1_35) k_) ?_
        show own_Go p e below s₁ (mkF m 36 #[.val (.double x), .second, .val (.double (4640537203540230144 : UInt64)), .second, .val (.int (0 : Int32)), .unset] [(.int (1 : Int32))]) _
        refine own_st (fun t_ k_ => XS.goto X0.here hx rfl (pc0 := 36) (pc' := 40) rfl (hb hby d1_36) (by decide) (by decide) k_) ?_
        show own_Go p e below s₁ (mkF m 40 #[.val (.double x), .second, .val (.double (4640537203540230144 : UInt64)), .second, .val (.int (0 : Int32)), .unset] [(.int (1 : Int32))]) _
        refine own_st (fun t_ k_ => XS.istore X0.here hx rfl (hb hby d1_40) rfl (l' := #[.val (.double x), .second, .val (.double (4640537203540230144 : UInt64)), .second, .val (.int (0 : Int32)), .val (.int (1 : Int32))]) rfl k_) ?_
        show own_Go p e below s₁ (mkF m 42 #[.val (.double x), .second, .val (.double (4640537203540230144 : UInt64)), .second, .val (.int (0 : Int32)), .val (.int (1 : Int32))] []) _
        refine own_st (fun t_ k_ => XS.iload X0.here hx rfl (hb hby d1_42) rfl k_) ?_
        show own_Go p e below s₁ (mkF m 44 #[.val (.double x), .second, .val (.double (4640537203540230144 : UInt64)), .second, .val (.int (0 : Int32)), .val (.int (1 : Int32))] [(.int (0 : Int32))]) _
        refine own_st (fun t_ k_ => XS.ifYes X0.here hx rfl (pc0 := 44) (pc' := 56) rfl (hb hby d1_44) rfl (by decide) (by decide) (by decide) k_) ?_
        show own_Go p e below s₁ (mkF m 56 #[.val (.double x), .second, .val (.double (4640537203540230144 : UInt64)), .second, .val (.int (0 : Int32)), .val (.int (1 : Int32))] []) _
        refine own_st (fun t_ k_ => XS.iconst X0.here hx rfl (hb hby d1_56) k_) ?_
        show own_Go p e below s₁ (mkF m 57 #[.val (.double x), .second, .val (.double (4640537203540230144 : UInt64)), .second, .val (.int (0 : Int32)), .val (.int (1 : Int32))] [(.int (0 : Int32))]) _
        obtain ⟨fs, hr, hrun, hended, hW, hsame⟩ := X0.leave (v := some (.int (0 : Int32))) (fun h => by rw [Bd.returns] at h; cases h)
        refine own_fin (retN X0 hx (t := .boolean) Bd.returns (by simp) (hb hby d1_57) hr) ⟨hrun, hended, _, _, rfl, ?_, ⟨_, rfl⟩, hW, hsame.mono (by decide) (by decide)⟩
        show Q_rmWi180 Z x h0 n0 _ s₁.heap _
        rw [e0]
        exact ⟨(0 : Int32), rfl, N0, rfl, ((if_neg (fun h => k1 h.1)).symm)⟩
      · skip
        refine own_st (fun t_ k_ => XS.ifNo X0.here hx rfl (hb hby d1_24) rfl ((if0 _ _).trans (flt hc24).1) k_) ?_
        show own_Go p e below s₁ (mkF m 27 #[.val (.double x), .second, .val (.double (4640537203540230144 : UInt64)), .second, .val (.int (0 : Int32)), .unset] []) _
        refine own_st (fun t_ k_ => XS.dloadN X0.here hx rfl (hb hby d1_27) rfl k_) ?_
        show own_Go p e below s₁ (mkF m 28 #[.val (.double x), .second, .val (.double (4640537203540230144 : UInt64)), .second, .val (.int (0 : Int32)), .unset] [(.double x)]) _
        refine own_st (fun t_ k_ => XS.dconst0 X0.here hx rfl (hb hby d1_28) rfl k_) ?_
        show own_Go p e below s₁ (mkF m 29 #[.val (.double x), .second, .val (.double (4640537203540230144 : UInt64)), .second, .val (.int (0 : Int32)), .unset] [(.double FP.dconst0), (.double x)]) _
        refine own_st (fun t_ k_ => XS.dloadN X0.here hx rfl (hb hby d1_29) rfl k_) ?_
        show own_Go p e below s₁ (mkF m 30 #[.val (.double x), .second, .val (.double (4640537203540230144 : UInt64)), .second, .val (.int (0 : Int32)), .unset] [(.double (4640537203540230144 : UInt64)), (.double FP.dconst0), (.double x)]) _
        refine own_st (fun t_ k_ => XS.dsubS X0.here hx rfl (hb hby d1_30) rfl own_n180_nn rfl k_) ?_
        show own_Go p e below s₁ (mkF m 31 #[.val (.double x), .second, .val (.double (4640537203540230144 : UInt64)), .second, .val (.int (0 : Int32)), .unset] [(.double (FP.dsub FP.dconst0 (4640537203540230144 : UInt64))), (.double x)]) _
        refine own_st (fun t_ k_ => XS.dcmpS X0.here hx rfl (hb hby d1_31) rfl rfl k_) ?_
        show own_Go p e below s₁ (mkF m 32 #[.val (.double x), .second, .val (.double (4640537203540230144 : UInt64)), .second, .val (.int (0 : Int32)), .unset] [(.int (cmpValue (FP.dcmp x (FP.dsub FP.dconst0 (4640537203540230144 : UInt64))) .l))]) _
        by_cases hc32 : (cmpValue (FP.dcmp x (FP.dsub FP.dconst0 (4640537203540230144 : UInt64))) .l) = (0 : Int32)
        · skip
          refine own_st (fun t_ k_ => XS.ifNo X0.here hx rfl (hb hby d1_32) rfl ((if0 _ _).trans (teq hc32).2) k_) ?_
          show own_Go p e below s₁ (mkF m 35 #[.val (.double x), .second, .val (.double (4640537203540230144 : UInt64)), .second, .val (.int (0 : Int32)), .unset] []) _
          have k2 : -FP.Core.dkey (4640537203540230144 : UInt64) ≤ FP.Core.dkey x := by have := (own_eq_l hx0 own_n180_nn).mp hc32; omega
          refine own_st (fun t_ k_ => XS.iconst X0.here hx rfl (hb hby d1_35) k_) ?_
          show own_Go p e below s₁ (mkF m 36 #[.val (.double x), .second, .val (.double (4640537203540230144 : UInt64)), .second, .val (.int (0 : Int32)), .unset] [(.int (1 : Int32))]) _
          refine own_st (fun t_ k_ => XS.goto X0.here hx rfl (pc0 := 36) (pc' := 40) rfl (hb hby d1_36) (by decide) (by decide) k_) ?_
          show own_Go p e below s₁ (mkF m 40 #[.val (.double x), .second, .val (.double (4640537203540230144 : UInt64)), .second, .val (.int (0 : Int32)), .unset] [(.int (1 : Int32))]) _
          refine own_st (fun t_ k_ => XS.istore X0.here hx rfl (hb hby d1_40) rfl (l' := #[.val (.double x), .second, .val (.double (4640537203540230144 : UInt64)), .second, .val (.int (0 : Int32)), .val (.int (1 : Int32))]) rfl k_) ?_
          show own_Go p e below s₁ (mkF m 42 #[.val (.double x), .second, .val (.double (4640537203540230144 : UInt64)), .second, .val (.int (0 : Int32)), .val (.int (1 : Int32))] []) _
          refine own_st (fun t_ k_ => XS.iload X0.here hx rfl (hb hby d1_42) rfl k_) ?_
          show own_Go p e below s₁ (mkF m 44 #[.val (.double x), .second, .val (.double (4640537203540230144 : UInt64)), .second, .val (.int (0 : Int32)), .val (.int (1 : Int32))] [(.int (0 : Int32))]) _
          refine own_st (fun t_ k_ => XS.ifYes X0.here hx rfl (pc0 := 44) (pc' := 56) rfl (hb hby d1_44) rfl (by decide) (by decide) (by decide) k_) ?_
          show own_Go p e below s₁ (mkF m 56 #[.val (.double x), .second, .val (.double (4640537203540230144 : UInt64)), .second, .val (.int (0 : Int32)), .val (.int (1 : Int32))] []) _
          refine own_st (fun t_ k_ => XS.iconst X0.here hx rfl (hb hby d1_56) k_) ?_
          show own_Go p e below s₁ (mkF m 57 #[.val (.double x), .second, .val (.double (4640537203540230144 : UInt64)), .second, .val (.int (0 : Int32)), .val (.int (1 : Int32))] [(.int (0 : Int32))]) _
          obtain ⟨fs, hr, hrun, hended, hW, hsame⟩ := X0.leave (v := some (.int (0 : Int32))) (fun h => by rw [Bd.returns] at h; cases h)
          refine own_fin (retN X0 hx (t := .boolean) Bd.returns (by simp) (hb hby d1_57) hr) ⟨hrun, hended, _, _, rfl, ?_, ⟨_, rfl⟩, hW, hsame.mono (by decide) (by decide)⟩
          show Q_rmWi180 Z x h0 n0 _ s₁.heap _
          rw [e0]
          exact ⟨(0 : Int32), rfl, N0, rfl, ((if_neg (fun h => k1 h.1)).symm)⟩
        · skip
          refine own_st (fun t_ k_ => XS.ifYes X0.here hx rfl (pc0 := 32) (pc' := 39) rfl (hb hby d1_32) rfl ((if0 _ _).trans (feq hc32).2) (by decide) (by decide) k_) ?_
          show own_Go p e below s₁ (mkF m 39 #[.val (.double x), .second, .val (.double (4640537203540230144 : UInt64)), .second, .val (.int (0 : Int32)), .unset] []) _
          have k2 : ¬ -FP.Core.dkey (4640537203540230144 : UInt64) ≤ FP.Core.dkey x := fun h => by have u1 : ¬ FP.Core.dkey (FP.dsub FP.dconst0 (4640537203540230144 : UInt64)) < FP.Core.dkey x := fun h2 => hc24 ((own_lt_g own_n180_nn hx0).mpr h2); have u2 : ¬ FP.Core.dkey x = FP.Core.dkey (FP.dsub FP.dconst0 (4640537203540230144 : UInt64)) := fun h2 => hc32 ((own_eq_l hx0 own_n180_nn).mpr h2); omega
          refine own_st (fun t_ k_ => XS.iconst X0.here hx rfl (hb hby d1_39) k_) ?_
          show own_Go p e below s₁ (mkF m 40 #[.val (.double x), .second, .val (.double (4640537203540230144 : UInt64)), .second, .val (.int (0 : Int32)), .unset] [(.int (0 : Int32))]) _
          refine own_st (fun t_ k_ => XS.istore X0.here hx rfl (hb hby d1_40) rfl (l' := #[.val (.double x), .second, .val (.double (4640537203540230144 : UInt64)), .second, .val (.int (0 : Int32)), .val (.int (0 : Int32))]) rfl k_) ?_
          show own_Go p e below s₁ (mkF m 42 #[.val (.double x), .second, .val (.double (4640537203540230144 : UInt64)), .second, .val (.int (0 : Int32)), .val (.int (0 : Int32))] []) _
          refine own_st (fun t_ k_ => XS.iload X0.here hx rfl (hb hby d1_42) rfl k_) ?_
          show own_Go p e below s₁ (mkF m 44 #[.val (.double x), .second, .val (.double (4640537203540230144 : UInt64)), .second, .val (.int (0 : Int32)), .val (.int (0 : Int32))] [(.int (0 : Int32))]) _
          refine own_st (fun t_ k_ => XS.ifYes X0.here hx rfl (pc0 := 44) (pc' := 56) rfl (hb hby d1_44) rfl (by decide) (by decide) (by decide) k_) ?_
          show own_Go p e below s₁ (mkF m 56 #[.val (.double x), .second, .val (.double (4640537203540230144 : UInt64)), .second, .val (.int (0 : Int32)), .val (.int (0 : Int32))] []) _
          refine own_st (fun t_ k_ => XS.iconst X0.here hx rfl (hb hby d1_56) k_) ?_
          show own_Go p e below s₁ (mkF m 57 #[.val (.double x), .second, .val (.double (4640537203540230144 : UInt64)), .second, .val (.int (0 : Int32)), .val (.int (0 : Int32))] [(.int (0 : Int32))]) _
          obtain ⟨fs, hr, hrun, hended, hW, hsame⟩ := X0.leave (v := some (.int (0 : Int32))) (fun h => by rw [Bd.returns] at h; cases h)
          refine own_fin (retN X0 hx (t := .boolean) Bd.returns (by simp) (hb hby d1_57) hr) ⟨hrun, hended, _, _, rfl, ?_, ⟨_, rfl⟩, hW, hsame.mono (by decide) (by decide)⟩
          show Q_rmWi180 Z x h0 n0 _ s₁.heap _
          rw [e0]
          exact ⟨(0 : Int32), rfl, N0, rfl, ((if_neg (fun h => k1 h.1)).symm)⟩
theorem ef_rmWi90 (m : MethodId) (x0 : UInt64) (x1 : UInt64) : entryFrame m #[(.double x0), (.double x1)] 6 = mkF m 0 #[.val (.double x0), .second, .val (.double x1), .second, .unset, .unset] [] := by first | (simp [entryFrame, mkF, argsToLocals, Value.category]; done) | rfl
def Q_rmWi90 (Z : State) (x : UInt64) (h0 : Heap) (n0 : Nat) (v : Option Value) (h : Heap) (L : List Loc) : Prop := ∃ r : Int32, v = some (.int r) ∧ Fr n0 L ∧ h = h0 ∧ (r = if own_in x (4636033603912859648 : UInt64) then (1 : Int32) else (0 : Int32))
set_option maxRecDepth 65536 in
set_option maxHeartbeats 40000000 in
theorem rmWi90 (l : Launch) (Z : State) (a0 : Array Value) (hw : ∀ d ∈ tables_1, d.before a0 Z = true) (ws : List Jvm.Cond) (x : UInt64) (h0 : Heap) (n0 : Nat) (Z0 : n0 ≤ h0.size) (hx0 : (Jvm.Free.Fl.NoNaN64 x)) :
    MetFree l (⟨"com/example/envelope/envelope/model/Wgs84IsPositionPinLaw", "within", "(DD)Z"⟩ : MethodName) (head1 (Jvm.Cond.code (⟨"com/example/envelope/envelope/model/Wgs84IsPositionPinLaw", "within", "(DD)Z"⟩ : MethodName) method_2_code 6 (some .boolean) :: ws) ({ frames := 0, cells := 0, slots := 0, locals := 0 } : Room)) (fun a U => a = #[(.double x), (.double (4636033603912859648 : UInt64))] ∧ Z.Warmed39 U.vm ∧ U.heap = h0) (fun _ _ _ _ _ => True) (fun _ U o U' => ∃ v L, o = .returned v ∧ Q_rmWi90 Z x h0 n0 v U'.heap L ∧ FrameEnd U o U' L ({ frames := 0, cells := 0, slots := 0, locals := 0 } : Room).cells ({ frames := 0, cells := 0, slots := 0, locals := 0 } : Room).slots) := by
  refine MetFree.of_bodySF (plainFor_of_name pn_1) hisR ?_
  intro p e s m args below meth c s₁ Bd hml0 hP hK
  obtain ⟨rfl, hZ, hh⟩ := hP
  have hx := Bd.exec
  have hby := Bd.bytes
  have hml : c.maxLocals = 6 := hml0
  have hown : s.vm.findClass "com/example/envelope/envelope/model/Wgs84IsPositionPinLaw" = some m.cls := findClass_of_methodNamed Bd.named
  have hnm := (name_of_methodNamed Bd.named Bd.method).1
  have X0 : Stand p l e ({ frames := 0, cells := 0, slots := 0, locals := 0 } : Room) s m #[(.double x), (.double (4636033603912859648 : UInt64))] below meth c s₁ [] 0 0 := Stand.of_body Bd
  have e0 : s₁.heap = h0 := by rw [← hh, Bd.state]; rfl
  have N0 := Fr.nil n0
  refine own_enter (ef_rmWi90 m x ((4636033603912859648 : UInt64))) ?_
  have kN := own_n90_key
  refine own_st (fun t_ k_ => XS.dloadN X0.here hx rfl (hb hby d1_0) rfl k_) ?_
  show own_Go p e below s₁ (mkF m 1 #[.val (.double x), .second, .val (.double (4636033603912859648 : UInt64)), .second, .unset, .unset] [(.double x)]) _
  refine own_st (fun t_ k_ => XS.dloadN X0.here hx rfl (hb hby d1_1) rfl k_) ?_
  show own_Go p e below s₁ (mkF m 2 #[.val (.double x), .second, .val (.double (4636033603912859648 : UInt64)), .second, .unset, .unset] [(.double (4636033603912859648 : UInt64)), (.double x)]) _
  refine own_st (fun t_ k_ => XS.dcmpS X0.here hx rfl (hb hby d1_2) rfl rfl k_) ?_
  show own_Go p e below s₁ (mkF m 3 #[.val (.double x), .second, .val (.double (4636033603912859648 : UInt64)), .second, .unset, .unset] [(.int (cmpValue (FP.dcmp x (4636033603912859648 : UInt64)) .g))]) _
  by_cases hc3 : (cmpValue (FP.dcmp x (4636033603912859648 : UInt64)) .g) < (0 : Int32)
  · skip
    refine own_st (fun t_ k_ => XS.ifYes X0.here hx rfl (pc0 := 3) (pc' := 12) rfl (hb hby d1_3) rfl ((if0 _ _).trans (tlt hc3).1) (by decide) (by decide) k_) ?_
    show own_Go p e below s₁ (mkF m 12 #[.val (.double x), .second, .val (.double (4636033603912859648 : UInt64)), .second, .unset, .unset] []) _
    have k1 : FP.Core.dkey x ≤ FP.Core.dkey (4636033603912859648 : UInt64) := Int.le_of_lt ((own_lt_g hx0 own_b90_nn).mp hc3)
    refine own_st (fun t_ k_ => XS.iconst X0.here hx rfl (hb hby d1_12) k_) ?_
    show own_Go p e below s₁ (mkF m 13 #[.val (.double x), .second, .val (.double (4636033603912859648 : UInt64)), .second, .unset, .unset] [(.int (1 : Int32))]) _
    refine own_st (fun t_ k_ => XS.goto X0.here hx rfl (pc0 := 13) (pc' := 17) rfl (hb hby d1_13) (by decide) (by decide) k_) ?_
    show own_Go p e below s₁ (mkF m 17 #[.val (.double x), .second, .val (.double (4636033603912859648 : UInt64)), .second, .unset, .unset] [(.int (1 : Int32))]) _
    refine own_st (fun t_ k_ => XS.istore X0.here hx rfl (hb hby d1_17) rfl (l' := #[.val (.double x), .second, .val (.double (4636033603912859648 : UInt64)), .second, .val (.int (1 : Int32)), .unset]) rfl k_) ?_
    show own_Go p e below s₁ (mkF m 19 #[.val (.double x), .second, .val (.double (4636033603912859648 : UInt64)), .second, .val (.int (1 : Int32)), .unset] []) _
    refine own_st (fun t_ k_ => XS.dconst0 X0.here hx rfl (hb hby d1_19) rfl k_) ?_
    show own_Go p e below s₁ (mkF m 20 #[.val (.double x), .second, .val (.double (4636033603912859648 : UInt64)), .second, .val (.int (1 : Int32)), .unset] [(.double FP.dconst0)]) _
    refine own_st (fun t_ k_ => XS.dloadN X0.here hx rfl (hb hby d1_20) rfl k_) ?_
    show own_Go p e below s₁ (mkF m 21 #[.val (.double x), .second, .val (.double (4636033603912859648 : UInt64)), .second, .val (.int (1 : Int32)), .unset] [(.double (4636033603912859648 : UInt64)), (.double FP.dconst0)]) _
    refine own_st (fun t_ k_ => XS.dsubS X0.here hx rfl (hb hby d1_21) rfl own_n90_nn rfl k_) ?_
    show own_Go p e below s₁ (mkF m 22 #[.val (.double x), .second, .val (.double (4636033603912859648 : UInt64)), .second, .val (.int (1 : Int32)), .unset] [(.double (FP.dsub FP.dconst0 (4636033603912859648 : UInt64)))]) _
    refine own_st (fun t_ k_ => XS.dloadN X0.here hx rfl (hb hby d1_22) rfl k_) ?_
    show own_Go p e below s₁ (mkF m 23 #[.val (.double x), .second, .val (.double (4636033603912859648 : UInt64)), .second, .val (.int (1 : Int32)), .unset] [(.double x), (.double (FP.dsub FP.dconst0 (4636033603912859648 : UInt64)))]) _
    refine own_st (fun t_ k_ => XS.dcmpS X0.here hx rfl (hb hby d1_23) rfl rfl k_) ?_
    show own_Go p e below s₁ (mkF m 24 #[.val (.double x), .second, .val (.double (4636033603912859648 : UInt64)), .second, .val (.int (1 : Int32)), .unset] [(.int (cmpValue (FP.dcmp (FP.dsub FP.dconst0 (4636033603912859648 : UInt64)) x) .g))]) _
    by_cases hc24 : (cmpValue (FP.dcmp (FP.dsub FP.dconst0 (4636033603912859648 : UInt64)) x) .g) < (0 : Int32)
    · skip
      refine own_st (fun t_ k_ => XS.ifYes X0.here hx rfl (pc0 := 24) (pc' := 35) rfl (hb hby d1_24) rfl ((if0 _ _).trans (tlt hc24).1) (by decide) (by decide) k_) ?_
      show own_Go p e below s₁ (mkF m 35 #[.val (.double x), .second, .val (.double (4636033603912859648 : UInt64)), .second, .val (.int (1 : Int32)), .unset] []) _
      have k2 : -FP.Core.dkey (4636033603912859648 : UInt64) ≤ FP.Core.dkey x := by have := (own_lt_g own_n90_nn hx0).mp hc24; omega
      refine own_st (fun t_ k_ => XS.iconst X0.here hx rfl (hb hby d1_35) k_) ?_
      show own_Go p e below s₁ (mkF m 36 #[.val (.double x), .second, .val (.double (4636033603912859648 : UInt64)), .second, .val (.int (1 : Int32)), .unset] [(.int (1 : Int32))]) _
      refine own_st (fun t_ k_ => XS.goto X0.here hx rfl (pc0 := 36) (pc' := 40) rfl (hb hby d1_36) (by decide) (by decide) k_) ?_
      show own_Go p e below s₁ (mkF m 40 #[.val (.double x), .second, .val (.double (4636033603912859648 : UInt64)), .second, .val (.int (1 : Int32)), .unset] [(.int (1 : Int32))]) _
      refine own_st (fun t_ k_ => XS.istore X0.here hx rfl (hb hby d1_40) rfl (l' := #[.val (.double x), .second, .val (.double (4636033603912859648 : UInt64)), .second, .val (.int (1 : Int32)), .val (.int (1 : Int32))]) rfl k_) ?_
      show own_Go p e below s₁ (mkF m 42 #[.val (.double x), .second, .val (.double (4636033603912859648 : UInt64)), .second, .val (.int (1 : Int32)), .val (.int (1 : Int32))] []) _
      refine own_st (fun t_ k_ => XS.iload X0.here hx rfl (hb hby d1_42) rfl k_) ?_
      show own_Go p e below s₁ (mkF m 44 #[.val (.double x), .second, .val (.double (4636033603912859648 : UInt64)), .second, .val (.int (1 : Int32)), .val (.int (1 : Int32))] [(.int (1 : Int32))]) _
      refine own_st (fun t_ k_ => XS.ifNo X0.here hx rfl (hb hby d1_44) rfl (by decide) k_) ?_
      show own_Go p e below s₁ (mkF m 47 #[.val (.double x), .second, .val (.double (4636033603912859648 : UInt64)), .second, .val (.int (1 : Int32)), .val (.int (1 : Int32))] []) _
      refine own_st (fun t_ k_ => XS.iload X0.here hx rfl (hb hby d1_47) rfl k_) ?_
      show own_Go p e below s₁ (mkF m 49 #[.val (.double x), .second, .val (.double (4636033603912859648 : UInt64)), .second, .val (.int (1 : Int32)), .val (.int (1 : Int32))] [(.int (1 : Int32))]) _
      refine own_st (fun t_ k_ => XS.ifNo X0.here hx rfl (hb hby d1_49) rfl (by decide) k_) ?_
      show own_Go p e below s₁ (mkF m 52 #[.val (.double x), .second, .val (.double (4636033603912859648 : UInt64)), .second, .val (.int (1 : Int32)), .val (.int (1 : Int32))] []) _
      refine own_st (fun t_ k_ => XS.iconst X0.here hx rfl (hb hby d1_52) k_) ?_
      show own_Go p e below s₁ (mkF m 53 #[.val (.double x), .second, .val (.double (4636033603912859648 : UInt64)), .second, .val (.int (1 : Int32)), .val (.int (1 : Int32))] [(.int (1 : Int32))]) _
      refine own_st (fun t_ k_ => XS.goto X0.here hx rfl (pc0 := 53) (pc' := 57) rfl (hb hby d1_53) (by decide) (by decide) k_) ?_
      show own_Go p e below s₁ (mkF m 57 #[.val (.double x), .second, .val (.double (4636033603912859648 : UInt64)), .second, .val (.int (1 : Int32)), .val (.int (1 : Int32))] [(.int (1 : Int32))]) _
      obtain ⟨fs, hr, hrun, hended, hW, hsame⟩ := X0.leave (v := some (.int (1 : Int32))) (fun h => by rw [Bd.returns] at h; cases h)
      refine own_fin (retN X0 hx (t := .boolean) Bd.returns (by simp) (hb hby d1_57) hr) ⟨hrun, hended, _, _, rfl, ?_, ⟨_, rfl⟩, hW, hsame.mono (by decide) (by decide)⟩
      show Q_rmWi90 Z x h0 n0 _ s₁.heap _
      rw [e0]
      exact ⟨(1 : Int32), rfl, N0, rfl, ((if_pos ⟨k1, k2⟩).symm)⟩
    · skip
      refine own_st (fun t_ k_ => XS.ifNo X0.here hx rfl (hb hby d1_24) rfl ((if0 _ _).trans (flt hc24).1) k_) ?_
      show own_Go p e below s₁ (mkF m 27 #[.val (.double x), .second, .val (.double (4636033603912859648 : UInt64)), .second, .val (.int (1 : Int32)), .unset] []) _
      refine own_st (fun t_ k_ => XS.dloadN X0.here hx rfl (hb hby d1_27) rfl k_) ?_
      show own_Go p e below s₁ (mkF m 28 #[.val (.double x), .second, .val (.double (4636033603912859648 : UInt64)), .second, .val (.int (1 : Int32)), .unset] [(.double x)]) _
      refine own_st (fun t_ k_ => XS.dconst0 X0.here hx rfl (hb hby d1_28) rfl k_) ?_
      show own_Go p e below s₁ (mkF m 29 #[.val (.double x), .second, .val (.double (4636033603912859648 : UInt64)), .second, .val (.int (1 : Int32)), .unset] [(.double FP.dconst0), (.double x)]) _
      refine own_st (fun t_ k_ => XS.dloadN X0.here hx rfl (hb hby d1_29) rfl k_) ?_
      show own_Go p e below s₁ (mkF m 30 #[.val (.double x), .second, .val (.double (4636033603912859648 : UInt64)), .second, .val (.int (1 : Int32)), .unset] [(.double (4636033603912859648 : UInt64)), (.double FP.dconst0), (.double x)]) _
      refine own_st (fun t_ k_ => XS.dsubS X0.here hx rfl (hb hby d1_30) rfl own_n90_nn rfl k_) ?_
      show own_Go p e below s₁ (mkF m 31 #[.val (.double x), .second, .val (.double (4636033603912859648 : UInt64)), .second, .val (.int (1 : Int32)), .unset] [(.double (FP.dsub FP.dconst0 (4636033603912859648 : UInt64))), (.double x)]) _
      refine own_st (fun t_ k_ => XS.dcmpS X0.here hx rfl (hb hby d1_31) rfl rfl k_) ?_
      show own_Go p e below s₁ (mkF m 32 #[.val (.double x), .second, .val (.double (4636033603912859648 : UInt64)), .second, .val (.int (1 : Int32)), .unset] [(.int (cmpValue (FP.dcmp x (FP.dsub FP.dconst0 (4636033603912859648 : UInt64))) .l))]) _
      by_cases hc32 : (cmpValue (FP.dcmp x (FP.dsub FP.dconst0 (4636033603912859648 : UInt64))) .l) = (0 : Int32)
      · skip
        refine own_st (fun t_ k_ => XS.ifNo X0.here hx rfl (hb hby d1_32) rfl ((if0 _ _).trans (teq hc32).2) k_) ?_
        show own_Go p e below s₁ (mkF m 35 #[.val (.double x), .second, .val (.double (4636033603912859648 : UInt64)), .second, .val (.int (1 : Int32)), .unset] []) _
        have k2 : -FP.Core.dkey (4636033603912859648 : UInt64) ≤ FP.Core.dkey x := by have := (own_eq_l hx0 own_n90_nn).mp hc32; omega
        refine own_st (fun t_ k_ => XS.iconst X0.here hx rfl (hb hby d1_35) k_) ?_
        show own_Go p e below s₁ (mkF m 36 #[.val (.double x), .second, .val (.double (4636033603912859648 : UInt64)), .second, .val (.int (1 : Int32)), .unset] [(.int (1 : Int32))]) _
        refine own_st (fun t_ k_ => XS.goto X0.here hx rfl (pc0 := 36) (pc' := 40) rfl (hb hby d1_36) (by decide) (by decide) k_) ?_
        show own_Go p e below s₁ (mkF m 40 #[.val (.double x), .second, .val (.double (4636033603912859648 : UInt64)), .second, .val (.int (1 : Int32)), .unset] [(.int (1 : Int32))]) _
        refine own_st (fun t_ k_ => XS.istore X0.here hx rfl (hb hby d1_40) rfl (l' := #[.val (.double x), .second, .val (.double (4636033603912859648 : UInt64)), .second, .val (.int (1 : Int32)), .val (.int (1 : Int32))]) rfl k_) ?_
        show own_Go p e below s₁ (mkF m 42 #[.val (.double x), .second, .val (.double (4636033603912859648 : UInt64)), .second, .val (.int (1 : Int32)), .val (.int (1 : Int32))] []) _
        refine own_st (fun t_ k_ => XS.iload X0.here hx rfl (hb hby d1_42) rfl k_) ?_
        show own_Go p e below s₁ (mkF m 44 #[.val (.double x), .second, .val (.double (4636033603912859648 : UInt64)), .second, .val (.int (1 : Int32)), .val (.int (1 : Int32))] [(.int (1 : Int32))]) _
        refine own_st (fun t_ k_ => XS.ifNo X0.here hx rfl (hb hby d1_44) rfl (by decide) k_) ?_
        show own_Go p e below s₁ (mkF m 47 #[.val (.double x), .second, .val (.double (4636033603912859648 : UInt64)), .second, .val (.int (1 : Int32)), .val (.int (1 : Int32))] []) _
        refine own_st (fun t_ k_ => XS.iload X0.here hx rfl (hb hby d1_47) rfl k_) ?_
        show own_Go p e below s₁ (mkF m 49 #[.val (.double x), .second, .val (.double (4636033603912859648 : UInt64)), .second, .val (.int (1 : Int32)), .val (.int (1 : Int32))] [(.int (1 : Int32))]) _
        refine own_st (fun t_ k_ => XS.ifNo X0.here hx rfl (hb hby d1_49) rfl (by decide) k_) ?_
        show own_Go p e below s₁ (mkF m 52 #[.val (.double x), .second, .val (.double (4636033603912859648 : UInt64)), .second, .val (.int (1 : Int32)), .val (.int (1 : Int32))] []) _
        refine own_st (fun t_ k_ => XS.iconst X0.here hx rfl (hb hby d1_52) k_) ?_
        show own_Go p e below s₁ (mkF m 53 #[.val (.double x), .second, .val (.double (4636033603912859648 : UInt64)), .second, .val (.int (1 : Int32)), .val (.int (1 : Int32))] [(.int (1 : Int32))]) _
        refine own_st (fun t_ k_ => XS.goto X0.here hx rfl (pc0 := 53) (pc' := 57) rfl (hb hby d1_53) (by decide) (by decide) k_) ?_
        show own_Go p e below s₁ (mkF m 57 #[.val (.double x), .second, .val (.double (4636033603912859648 : UInt64)), .second, .val (.int (1 : Int32)), .val (.int (1 : Int32))] [(.int (1 : Int32))]) _
        obtain ⟨fs, hr, hrun, hended, hW, hsame⟩ := X0.leave (v := some (.int (1 : Int32))) (fun h => by rw [Bd.returns] at h; cases h)
        refine own_fin (retN X0 hx (t := .boolean) Bd.returns (by simp) (hb hby d1_57) hr) ⟨hrun, hended, _, _, rfl, ?_, ⟨_, rfl⟩, hW, hsame.mono (by decide) (by decide)⟩
        show Q_rmWi90 Z x h0 n0 _ s₁.heap _
        rw [e0]
        exact ⟨(1 : Int32), rfl, N0, rfl, ((if_pos ⟨k1, k2⟩).symm)⟩
      · skip
        refine own_st (fun t_ k_ => XS.ifYes X0.here hx rfl (pc0 := 32) (pc' := 39) rfl (hb hby d1_32) rfl ((if0 _ _).trans (feq hc32).2) (by decide) (by decide) k_) ?_
        show own_Go p e below s₁ (mkF m 39 #[.val (.double x), .second, .val (.double (4636033603912859648 : UInt64)), .second, .val (.int (1 : Int32)), .unset] []) _
        have k2 : ¬ -FP.Core.dkey (4636033603912859648 : UInt64) ≤ FP.Core.dkey x := fun h => by have u1 : ¬ FP.Core.dkey (FP.dsub FP.dconst0 (4636033603912859648 : UInt64)) < FP.Core.dkey x := fun h2 => hc24 ((own_lt_g own_n90_nn hx0).mpr h2); have u2 : ¬ FP.Core.dkey x = FP.Core.dkey (FP.dsub FP.dconst0 (4636033603912859648 : UInt64)) := fun h2 => hc32 ((own_eq_l hx0 own_n90_nn).mpr h2); omega
        refine own_st (fun t_ k_ => XS.iconst X0.here hx rfl (hb hby d1_39) k_) ?_
        show own_Go p e below s₁ (mkF m 40 #[.val (.double x), .second, .val (.double (4636033603912859648 : UInt64)), .second, .val (.int (1 : Int32)), .unset] [(.int (0 : Int32))]) _
        refine own_st (fun t_ k_ => XS.istore X0.here hx rfl (hb hby d1_40) rfl (l' := #[.val (.double x), .second, .val (.double (4636033603912859648 : UInt64)), .second, .val (.int (1 : Int32)), .val (.int (0 : Int32))]) rfl k_) ?_
        show own_Go p e below s₁ (mkF m 42 #[.val (.double x), .second, .val (.double (4636033603912859648 : UInt64)), .second, .val (.int (1 : Int32)), .val (.int (0 : Int32))] []) _
        refine own_st (fun t_ k_ => XS.iload X0.here hx rfl (hb hby d1_42) rfl k_) ?_
        show own_Go p e below s₁ (mkF m 44 #[.val (.double x), .second, .val (.double (4636033603912859648 : UInt64)), .second, .val (.int (1 : Int32)), .val (.int (0 : Int32))] [(.int (1 : Int32))]) _
        refine own_st (fun t_ k_ => XS.ifNo X0.here hx rfl (hb hby d1_44) rfl (by decide) k_) ?_
        show own_Go p e below s₁ (mkF m 47 #[.val (.double x), .second, .val (.double (4636033603912859648 : UInt64)), .second, .val (.int (1 : Int32)), .val (.int (0 : Int32))] []) _
        refine own_st (fun t_ k_ => XS.iload X0.here hx rfl (hb hby d1_47) rfl k_) ?_
        show own_Go p e below s₁ (mkF m 49 #[.val (.double x), .second, .val (.double (4636033603912859648 : UInt64)), .second, .val (.int (1 : Int32)), .val (.int (0 : Int32))] [(.int (0 : Int32))]) _
        refine own_st (fun t_ k_ => XS.ifYes X0.here hx rfl (pc0 := 49) (pc' := 56) rfl (hb hby d1_49) rfl (by decide) (by decide) (by decide) k_) ?_
        show own_Go p e below s₁ (mkF m 56 #[.val (.double x), .second, .val (.double (4636033603912859648 : UInt64)), .second, .val (.int (1 : Int32)), .val (.int (0 : Int32))] []) _
        refine own_st (fun t_ k_ => XS.iconst X0.here hx rfl (hb hby d1_56) k_) ?_
        show own_Go p e below s₁ (mkF m 57 #[.val (.double x), .second, .val (.double (4636033603912859648 : UInt64)), .second, .val (.int (1 : Int32)), .val (.int (0 : Int32))] [(.int (0 : Int32))]) _
        obtain ⟨fs, hr, hrun, hended, hW, hsame⟩ := X0.leave (v := some (.int (0 : Int32))) (fun h => by rw [Bd.returns] at h; cases h)
        refine own_fin (retN X0 hx (t := .boolean) Bd.returns (by simp) (hb hby d1_57) hr) ⟨hrun, hended, _, _, rfl, ?_, ⟨_, rfl⟩, hW, hsame.mono (by decide) (by decide)⟩
        show Q_rmWi90 Z x h0 n0 _ s₁.heap _
        rw [e0]
        exact ⟨(0 : Int32), rfl, N0, rfl, ((if_neg (fun h => k2 h.2)).symm)⟩
  · skip
    refine own_st (fun t_ k_ => XS.ifNo X0.here hx rfl (hb hby d1_3) rfl ((if0 _ _).trans (flt hc3).1) k_) ?_
    show own_Go p e below s₁ (mkF m 6 #[.val (.double x), .second, .val (.double (4636033603912859648 : UInt64)), .second, .unset, .unset] []) _
    refine own_st (fun t_ k_ => XS.dloadN X0.here hx rfl (hb hby d1_6) rfl k_) ?_
    show own_Go p e below s₁ (mkF m 7 #[.val (.double x), .second, .val (.double (4636033603912859648 : UInt64)), .second, .unset, .unset] [(.double x)]) _
    refine own_st (fun t_ k_ => XS.dloadN X0.here hx rfl (hb hby d1_7) rfl k_) ?_
    show own_Go p e below s₁ (mkF m 8 #[.val (.double x), .second, .val (.double (4636033603912859648 : UInt64)), .second, .unset, .unset] [(.double (4636033603912859648 : UInt64)), (.double x)]) _
    refine own_st (fun t_ k_ => XS.dcmpS X0.here hx rfl (hb hby d1_8) rfl rfl k_) ?_
    show own_Go p e below s₁ (mkF m 9 #[.val (.double x), .second, .val (.double (4636033603912859648 : UInt64)), .second, .unset, .unset] [(.int (cmpValue (FP.dcmp x (4636033603912859648 : UInt64)) .l))]) _
    by_cases hc9 : (cmpValue (FP.dcmp x (4636033603912859648 : UInt64)) .l) = (0 : Int32)
    · skip
      refine own_st (fun t_ k_ => XS.ifNo X0.here hx rfl (hb hby d1_9) rfl ((if0 _ _).trans (teq hc9).2) k_) ?_
      show own_Go p e below s₁ (mkF m 12 #[.val (.double x), .second, .val (.double (4636033603912859648 : UInt64)), .second, .unset, .unset] []) _
      have k1 : FP.Core.dkey x ≤ FP.Core.dkey (4636033603912859648 : UInt64) := Int.le_of_eq ((own_eq_l hx0 own_b90_nn).mp hc9)
      refine own_st (fun t_ k_ => XS.iconst X0.here hx rfl (hb hby d1_12) k_) ?_
      show own_Go p e below s₁ (mkF m 13 #[.val (.double x), .second, .val (.double (4636033603912859648 : UInt64)), .second, .unset, .unset] [(.int (1 : Int32))]) _
      refine own_st (fun t_ k_ => XS.goto X0.here hx rfl (pc0 := 13) (pc' := 17) rfl (hb hby d1_13) (by decide) (by decide) k_) ?_
      show own_Go p e below s₁ (mkF m 17 #[.val (.double x), .second, .val (.double (4636033603912859648 : UInt64)), .second, .unset, .unset] [(.int (1 : Int32))]) _
      refine own_st (fun t_ k_ => XS.istore X0.here hx rfl (hb hby d1_17) rfl (l' := #[.val (.double x), .second, .val (.double (4636033603912859648 : UInt64)), .second, .val (.int (1 : Int32)), .unset]) rfl k_) ?_
      show own_Go p e below s₁ (mkF m 19 #[.val (.double x), .second, .val (.double (4636033603912859648 : UInt64)), .second, .val (.int (1 : Int32)), .unset] []) _
      refine own_st (fun t_ k_ => XS.dconst0 X0.here hx rfl (hb hby d1_19) rfl k_) ?_
      show own_Go p e below s₁ (mkF m 20 #[.val (.double x), .second, .val (.double (4636033603912859648 : UInt64)), .second, .val (.int (1 : Int32)), .unset] [(.double FP.dconst0)]) _
      refine own_st (fun t_ k_ => XS.dloadN X0.here hx rfl (hb hby d1_20) rfl k_) ?_
      show own_Go p e below s₁ (mkF m 21 #[.val (.double x), .second, .val (.double (4636033603912859648 : UInt64)), .second, .val (.int (1 : Int32)), .unset] [(.double (4636033603912859648 : UInt64)), (.double FP.dconst0)]) _
      refine own_st (fun t_ k_ => XS.dsubS X0.here hx rfl (hb hby d1_21) rfl own_n90_nn rfl k_) ?_
      show own_Go p e below s₁ (mkF m 22 #[.val (.double x), .second, .val (.double (4636033603912859648 : UInt64)), .second, .val (.int (1 : Int32)), .unset] [(.double (FP.dsub FP.dconst0 (4636033603912859648 : UInt64)))]) _
      refine own_st (fun t_ k_ => XS.dloadN X0.here hx rfl (hb hby d1_22) rfl k_) ?_
      show own_Go p e below s₁ (mkF m 23 #[.val (.double x), .second, .val (.double (4636033603912859648 : UInt64)), .second, .val (.int (1 : Int32)), .unset] [(.double x), (.double (FP.dsub FP.dconst0 (4636033603912859648 : UInt64)))]) _
      refine own_st (fun t_ k_ => XS.dcmpS X0.here hx rfl (hb hby d1_23) rfl rfl k_) ?_
      show own_Go p e below s₁ (mkF m 24 #[.val (.double x), .second, .val (.double (4636033603912859648 : UInt64)), .second, .val (.int (1 : Int32)), .unset] [(.int (cmpValue (FP.dcmp (FP.dsub FP.dconst0 (4636033603912859648 : UInt64)) x) .g))]) _
      by_cases hc24 : (cmpValue (FP.dcmp (FP.dsub FP.dconst0 (4636033603912859648 : UInt64)) x) .g) < (0 : Int32)
      · skip
        refine own_st (fun t_ k_ => XS.ifYes X0.here hx rfl (pc0 := 24) (pc' := 35) rfl (hb hby d1_24) rfl ((if0 _ _).trans (tlt hc24).1) (by decide) (by decide) k_) ?_
        show own_Go p e below s₁ (mkF m 35 #[.val (.double x), .second, .val (.double (4636033603912859648 : UInt64)), .second, .val (.int (1 : Int32)), .unset] []) _
        have k2 : -FP.Core.dkey (4636033603912859648 : UInt64) ≤ FP.Core.dkey x := by have := (own_lt_g own_n90_nn hx0).mp hc24; omega
        refine own_st (fun t_ k_ => XS.iconst X0.here hx rfl (hb hby d1_35) k_) ?_
        show own_Go p e below s₁ (mkF m 36 #[.val (.double x), .second, .val (.double (4636033603912859648 : UInt64)), .second, .val (.int (1 : Int32)), .unset] [(.int (1 : Int32))]) _
        refine own_st (fun t_ k_ => XS.goto X0.here hx rfl (pc0 := 36) (pc' := 40) rfl (hb hby d1_36) (by decide) (by decide) k_) ?_
        show own_Go p e below s₁ (mkF m 40 #[.val (.double x), .second, .val (.double (4636033603912859648 : UInt64)), .second, .val (.int (1 : Int32)), .unset] [(.int (1 : Int32))]) _
        refine own_st (fun t_ k_ => XS.istore X0.here hx rfl (hb hby d1_40) rfl (l' := #[.val (.double x), .second, .val (.double (4636033603912859648 : UInt64)), .second, .val (.int (1 : Int32)), .val (.int (1 : Int32))]) rfl k_) ?_
        show own_Go p e below s₁ (mkF m 42 #[.val (.double x), .second, .val (.double (4636033603912859648 : UInt64)), .second, .val (.int (1 : Int32)), .val (.int (1 : Int32))] []) _
        refine own_st (fun t_ k_ => XS.iload X0.here hx rfl (hb hby d1_42) rfl k_) ?_
        show own_Go p e below s₁ (mkF m 44 #[.val (.double x), .second, .val (.double (4636033603912859648 : UInt64)), .second, .val (.int (1 : Int32)), .val (.int (1 : Int32))] [(.int (1 : Int32))]) _
        refine own_st (fun t_ k_ => XS.ifNo X0.here hx rfl (hb hby d1_44) rfl (by decide) k_) ?_
        show own_Go p e below s₁ (mkF m 47 #[.val (.double x), .second, .val (.double (4636033603912859648 : UInt64)), .second, .val (.int (1 : Int32)), .val (.int (1 : Int32))] []) _
        refine own_st (fun t_ k_ => XS.iload X0.here hx rfl (hb hby d1_47) rfl k_) ?_
        show own_Go p e below s₁ (mkF m 49 #[.val (.double x), .second, .val (.double (4636033603912859648 : UInt64)), .second, .val (.int (1 : Int32)), .val (.int (1 : Int32))] [(.int (1 : Int32))]) _
        refine own_st (fun t_ k_ => XS.ifNo X0.here hx rfl (hb hby d1_49) rfl (by decide) k_) ?_
        show own_Go p e below s₁ (mkF m 52 #[.val (.double x), .second, .val (.double (4636033603912859648 : UInt64)), .second, .val (.int (1 : Int32)), .val (.int (1 : Int32))] []) _
        refine own_st (fun t_ k_ => XS.iconst X0.here hx rfl (hb hby d1_52) k_) ?_
        show own_Go p e below s₁ (mkF m 53 #[.val (.double x), .second, .val (.double (4636033603912859648 : UInt64)), .second, .val (.int (1 : Int32)), .val (.int (1 : Int32))] [(.int (1 : Int32))]) _
        refine own_st (fun t_ k_ => XS.goto X0.here hx rfl (pc0 := 53) (pc' := 57) rfl (hb hby d1_53) (by decide) (by decide) k_) ?_
        show own_Go p e below s₁ (mkF m 57 #[.val (.double x), .second, .val (.double (4636033603912859648 : UInt64)), .second, .val (.int (1 : Int32)), .val (.int (1 : Int32))] [(.int (1 : Int32))]) _
        obtain ⟨fs, hr, hrun, hended, hW, hsame⟩ := X0.leave (v := some (.int (1 : Int32))) (fun h => by rw [Bd.returns] at h; cases h)
        refine own_fin (retN X0 hx (t := .boolean) Bd.returns (by simp) (hb hby d1_57) hr) ⟨hrun, hended, _, _, rfl, ?_, ⟨_, rfl⟩, hW, hsame.mono (by decide) (by decide)⟩
        show Q_rmWi90 Z x h0 n0 _ s₁.heap _
        rw [e0]
        exact ⟨(1 : Int32), rfl, N0, rfl, ((if_pos ⟨k1, k2⟩).symm)⟩
      · skip
        refine own_st (fun t_ k_ => XS.ifNo X0.here hx rfl (hb hby d1_24) rfl ((if0 _ _).trans (flt hc24).1) k_) ?_
        show own_Go p e below s₁ (mkF m 27 #[.val (.double x), .second, .val (.double (4636033603912859648 : UInt64)), .second, .val (.int (1 : Int32)), .unset] []) _
        refine own_st (fun t_ k_ => XS.dloadN X0.here hx rfl (hb hby d1_27) rfl k_) ?_
        show own_Go p e below s₁ (mkF m 28 #[.val (.double x), .second, .val (.double (4636033603912859648 : UInt64)), .second, .val (.int (1 : Int32)), .unset] [(.double x)]) _
        refine own_st (fun t_ k_ => XS.dconst0 X0.here hx rfl (hb hby d1_28) rfl k_) ?_
        show own_Go p e below s₁ (mkF m 29 #[.val (.double x), .second, .val (.double (4636033603912859648 : UInt64)), .second, .val (.int (1 : Int32)), .unset] [(.double FP.dconst0), (.double x)]) _
        refine own_st (fun t_ k_ => XS.dloadN X0.here hx rfl (hb hby d1_29) rfl k_) ?_
        show own_Go p e below s₁ (mkF m 30 #[.val (.double x), .second, .val (.double (4636033603912859648 : UInt64)), .second, .val (.int (1 : Int32)), .unset] [(.double (4636033603912859648 : UInt64)), (.double FP.dconst0), (.double x)]) _
        refine own_st (fun t_ k_ => XS.dsubS X0.here hx rfl (hb hby d1_30) rfl own_n90_nn rfl k_) ?_
        show own_Go p e below s₁ (mkF m 31 #[.val (.double x), .second, .val (.double (4636033603912859648 : UInt64)), .second, .val (.int (1 : Int32)), .unset] [(.double (FP.dsub FP.dconst0 (4636033603912859648 : UInt64))), (.double x)]) _
        refine own_st (fun t_ k_ => XS.dcmpS X0.here hx rfl (hb hby d1_31) rfl rfl k_) ?_
        show own_Go p e below s₁ (mkF m 32 #[.val (.double x), .second, .val (.double (4636033603912859648 : UInt64)), .second, .val (.int (1 : Int32)), .unset] [(.int (cmpValue (FP.dcmp x (FP.dsub FP.dconst0 (4636033603912859648 : UInt64))) .l))]) _
        by_cases hc32 : (cmpValue (FP.dcmp x (FP.dsub FP.dconst0 (4636033603912859648 : UInt64))) .l) = (0 : Int32)
        · skip
          refine own_st (fun t_ k_ => XS.ifNo X0.here hx rfl (hb hby d1_32) rfl ((if0 _ _).trans (teq hc32).2) k_) ?_
          show own_Go p e below s₁ (mkF m 35 #[.val (.double x), .second, .val (.double (4636033603912859648 : UInt64)), .second, .val (.int (1 : Int32)), .unset] []) _
          have k2 : -FP.Core.dkey (4636033603912859648 : UInt64) ≤ FP.Core.dkey x := by have := (own_eq_l hx0 own_n90_nn).mp hc32; omega
          refine own_st (fun t_ k_ => XS.iconst X0.here hx rfl (hb hby d1_35) k_) ?_
          show own_Go p e below s₁ (mkF m 36 #[.val (.double x), .second, .val (.double (4636033603912859648 : UInt64)), .second, .val (.int (1 : Int32)), .unset] [(.int (1 : Int32))]) _
          refine own_st (fun t_ k_ => XS.goto X0.here hx rfl (pc0 := 36) (pc' := 40) rfl (hb hby d1_36) (by decide) (by decide) k_) ?_
          show own_Go p e below s₁ (mkF m 40 #[.val (.double x), .second, .val (.double (4636033603912859648 : UInt64)), .second, .val (.int (1 : Int32)), .unset] [(.int (1 : Int32))]) _
          refine own_st (fun t_ k_ => XS.istore X0.here hx rfl (hb hby d1_40) rfl (l' := #[.val (.double x), .second, .val (.double (4636033603912859648 : UInt64)), .second, .val (.int (1 : Int32)), .val (.int (1 : Int32))]) rfl k_) ?_
          show own_Go p e below s₁ (mkF m 42 #[.val (.double x), .second, .val (.double (4636033603912859648 : UInt64)), .second, .val (.int (1 : Int32)), .val (.int (1 : Int32))] []) _
          refine own_st (fun t_ k_ => XS.iload X0.here hx rfl (hb hby d1_42) rfl k_) ?_
          show own_Go p e below s₁ (mkF m 44 #[.val (.double x), .second, .val (.double (4636033603912859648 : UInt64)), .second, .val (.int (1 : Int32)), .val (.int (1 : Int32))] [(.int (1 : Int32))]) _
          refine own_st (fun t_ k_ => XS.ifNo X0.here hx rfl (hb hby d1_44) rfl (by decide) k_) ?_
          show own_Go p e below s₁ (mkF m 47 #[.val (.double x), .second, .val (.double (4636033603912859648 : UInt64)), .second, .val (.int (1 : Int32)), .val (.int (1 : Int32))] []) _
          refine own_st (fun t_ k_ => XS.iload X0.here hx rfl (hb hby d1_47) rfl k_) ?_
          show own_Go p e below s₁ (mkF m 49 #[.val (.double x), .second, .val (.double (4636033603912859648 : UInt64)), .second, .val (.int (1 : Int32)), .val (.int (1 : Int32))] [(.int (1 : Int32))]) _
          refine own_st (fun t_ k_ => XS.ifNo X0.here hx rfl (hb hby d1_49) rfl (by decide) k_) ?_
          show own_Go p e below s₁ (mkF m 52 #[.val (.double x), .second, .val (.double (4636033603912859648 : UInt64)), .second, .val (.int (1 : Int32)), .val (.int (1 : Int32))] []) _
          refine own_st (fun t_ k_ => XS.iconst X0.here hx rfl (hb hby d1_52) k_) ?_
          show own_Go p e below s₁ (mkF m 53 #[.val (.double x), .second, .val (.double (4636033603912859648 : UInt64)), .second, .val (.int (1 : Int32)), .val (.int (1 : Int32))] [(.int (1 : Int32))]) _
          refine own_st (fun t_ k_ => XS.goto X0.here hx rfl (pc0 := 53) (pc' := 57) rfl (hb hby d1_53) (by decide) (by decide) k_) ?_
          show own_Go p e below s₁ (mkF m 57 #[.val (.double x), .second, .val (.double (4636033603912859648 : UInt64)), .second, .val (.int (1 : Int32)), .val (.int (1 : Int32))] [(.int (1 : Int32))]) _
          obtain ⟨fs, hr, hrun, hended, hW, hsame⟩ := X0.leave (v := some (.int (1 : Int32))) (fun h => by rw [Bd.returns] at h; cases h)
          refine own_fin (retN X0 hx (t := .boolean) Bd.returns (by simp) (hb hby d1_57) hr) ⟨hrun, hended, _, _, rfl, ?_, ⟨_, rfl⟩, hW, hsame.mono (by decide) (by decide)⟩
          show Q_rmWi90 Z x h0 n0 _ s₁.heap _
          rw [e0]
          exact ⟨(1 : Int32), rfl, N0, rfl, ((if_pos ⟨k1, k2⟩).symm)⟩
        · skip
          refine own_st (fun t_ k_ => XS.ifYes X0.here hx rfl (pc0 := 32) (pc' := 39) rfl (hb hby d1_32) rfl ((if0 _ _).trans (feq hc32).2) (by decide) (by decide) k_) ?_
          show own_Go p e below s₁ (mkF m 39 #[.val (.double x), .second, .val (.double (4636033603912859648 : UInt64)), .second, .val (.int (1 : Int32)), .unset] []) _
          have k2 : ¬ -FP.Core.dkey (4636033603912859648 : UInt64) ≤ FP.Core.dkey x := fun h => by have u1 : ¬ FP.Core.dkey (FP.dsub FP.dconst0 (4636033603912859648 : UInt64)) < FP.Core.dkey x := fun h2 => hc24 ((own_lt_g own_n90_nn hx0).mpr h2); have u2 : ¬ FP.Core.dkey x = FP.Core.dkey (FP.dsub FP.dconst0 (4636033603912859648 : UInt64)) := fun h2 => hc32 ((own_eq_l hx0 own_n90_nn).mpr h2); omega
          refine own_st (fun t_ k_ => XS.iconst X0.here hx rfl (hb hby d1_39) k_) ?_
          show own_Go p e below s₁ (mkF m 40 #[.val (.double x), .second, .val (.double (4636033603912859648 : UInt64)), .second, .val (.int (1 : Int32)), .unset] [(.int (0 : Int32))]) _
          refine own_st (fun t_ k_ => XS.istore X0.here hx rfl (hb hby d1_40) rfl (l' := #[.val (.double x), .second, .val (.double (4636033603912859648 : UInt64)), .second, .val (.int (1 : Int32)), .val (.int (0 : Int32))]) rfl k_) ?_
          show own_Go p e below s₁ (mkF m 42 #[.val (.double x), .second, .val (.double (4636033603912859648 : UInt64)), .second, .val (.int (1 : Int32)), .val (.int (0 : Int32))] []) _
          refine own_st (fun t_ k_ => XS.iload X0.here hx rfl (hb hby d1_42) rfl k_) ?_
          show own_Go p e below s₁ (mkF m 44 #[.val (.double x), .second, .val (.double (4636033603912859648 : UInt64)), .second, .val (.int (1 : Int32)), .val (.int (0 : Int32))] [(.int (1 : Int32))]) _
          refine own_st (fun t_ k_ => XS.ifNo X0.here hx rfl (hb hby d1_44) rfl (by decide) k_) ?_
          show own_Go p e below s₁ (mkF m 47 #[.val (.double x), .second, .val (.double (4636033603912859648 : UInt64)), .second, .val (.int (1 : Int32)), .val (.int (0 : Int32))] []) _
          refine own_st (fun t_ k_ => XS.iload X0.here hx rfl (hb hby d1_47) rfl k_) ?_
          show own_Go p e below s₁ (mkF m 49 #[.val (.double x), .second, .val (.double (4636033603912859648 : UInt64)), .second, .val (.int (1 : Int32)), .val (.int (0 : Int32))] [(.int (0 : Int32))]) _
          refine own_st (fun t_ k_ => XS.ifYes X0.here hx rfl (pc0 := 49) (pc' := 56) rfl (hb hby d1_49) rfl (by decide) (by decide) (by decide) k_) ?_
          show own_Go p e below s₁ (mkF m 56 #[.val (.double x), .second, .val (.double (4636033603912859648 : UInt64)), .second, .val (.int (1 : Int32)), .val (.int (0 : Int32))] []) _
          refine own_st (fun t_ k_ => XS.iconst X0.here hx rfl (hb hby d1_56) k_) ?_
          show own_Go p e below s₁ (mkF m 57 #[.val (.double x), .second, .val (.double (4636033603912859648 : UInt64)), .second, .val (.int (1 : Int32)), .val (.int (0 : Int32))] [(.int (0 : Int32))]) _
          obtain ⟨fs, hr, hrun, hended, hW, hsame⟩ := X0.leave (v := some (.int (0 : Int32))) (fun h => by rw [Bd.returns] at h; cases h)
          refine own_fin (retN X0 hx (t := .boolean) Bd.returns (by simp) (hb hby d1_57) hr) ⟨hrun, hended, _, _, rfl, ?_, ⟨_, rfl⟩, hW, hsame.mono (by decide) (by decide)⟩
          show Q_rmWi90 Z x h0 n0 _ s₁.heap _
          rw [e0]
          exact ⟨(0 : Int32), rfl, N0, rfl, ((if_neg (fun h => k2 h.2)).symm)⟩
    · skip
      refine own_st (fun t_ k_ => XS.ifYes X0.here hx rfl (pc0 := 9) (pc' := 16) rfl (hb hby d1_9) rfl ((if0 _ _).trans (feq hc9).2) (by decide) (by decide) k_) ?_
      show own_Go p e below s₁ (mkF m 16 #[.val (.double x), .second, .val (.double (4636033603912859648 : UInt64)), .second, .unset, .unset] []) _
      have k1 : ¬ FP.Core.dkey x ≤ FP.Core.dkey (4636033603912859648 : UInt64) := fun h => by have u1 : ¬ FP.Core.dkey x < FP.Core.dkey (4636033603912859648 : UInt64) := fun h2 => hc3 ((own_lt_g hx0 own_b90_nn).mpr h2); have u2 : ¬ FP.Core.dkey x = FP.Core.dkey (4636033603912859648 : UInt64) := fun h2 => hc9 ((own_eq_l hx0 own_b90_nn).mpr h2); omega
      refine own_st (fun t_ k_ => XS.iconst X0.here hx rfl (hb hby d1_16) k_) ?_
      show own_Go p e below s₁ (mkF m 17 #[.val (.double x), .second, .val (.double (4636033603912859648 : UInt64)), .second, .unset, .unset] [(.int (0 : Int32))]) _
      refine own_st (fun t_ k_ => XS.istore X0.here hx rfl (hb hby d1_17) rfl (l' := #[.val (.double x), .second, .val (.double (4636033603912859648 : UInt64)), .second, .val (.int (0 : Int32)), .unset]) rfl k_) ?_
      show own_Go p e below s₁ (mkF m 19 #[.val (.double x), .second, .val (.double (4636033603912859648 : UInt64)), .second, .val (.int (0 : Int32)), .unset] []) _
      refine own_st (fun t_ k_ => XS.dconst0 X0.here hx rfl (hb hby d1_19) rfl k_) ?_
      show own_Go p e below s₁ (mkF m 20 #[.val (.double x), .second, .val (.double (4636033603912859648 : UInt64)), .second, .val (.int (0 : Int32)), .unset] [(.double FP.dconst0)]) _
      refine own_st (fun t_ k_ => XS.dloadN X0.here hx rfl (hb hby d1_20) rfl k_) ?_
      show own_Go p e below s₁ (mkF m 21 #[.val (.double x), .second, .val (.double (4636033603912859648 : UInt64)), .second, .val (.int (0 : Int32)), .unset] [(.double (4636033603912859648 : UInt64)), (.double FP.dconst0)]) _
      refine own_st (fun t_ k_ => XS.dsubS X0.here hx rfl (hb hby d1_21) rfl own_n90_nn rfl k_) ?_
      show own_Go p e below s₁ (mkF m 22 #[.val (.double x), .second, .val (.double (4636033603912859648 : UInt64)), .second, .val (.int (0 : Int32)), .unset] [(.double (FP.dsub FP.dconst0 (4636033603912859648 : UInt64)))]) _
      refine own_st (fun t_ k_ => XS.dloadN X0.here hx rfl (hb hby d1_22) rfl k_) ?_
      show own_Go p e below s₁ (mkF m 23 #[.val (.double x), .second, .val (.double (4636033603912859648 : UInt64)), .second, .val (.int (0 : Int32)), .unset] [(.double x), (.double (FP.dsub FP.dconst0 (4636033603912859648 : UInt64)))]) _
      refine own_st (fun t_ k_ => XS.dcmpS X0.here hx rfl (hb hby d1_23) rfl rfl k_) ?_
      show own_Go p e below s₁ (mkF m 24 #[.val (.double x), .second, .val (.double (4636033603912859648 : UInt64)), .second, .val (.int (0 : Int32)), .unset] [(.int (cmpValue (FP.dcmp (FP.dsub FP.dconst0 (4636033603912859648 : UInt64)) x) .g))]) _
      by_cases hc24 : (cmpValue (FP.dcmp (FP.dsub FP.dconst0 (4636033603912859648 : UInt64)) x) .g) < (0 : Int32)
      · skip
        refine own_st (fun t_ k_ => XS.ifYes X0.here hx rfl (pc0 := 24) (pc' := 35) rfl (hb hby d1_24) rfl ((if0 _ _).trans (tlt hc24).1) (by decide) (by decide) k_) ?_
        show own_Go p e below s₁ (mkF m 35 #[.val (.double x), .second, .val (.double (4636033603912859648 : UInt64)), .second, .val (.int (0 : Int32)), .unset] []) _
        have k2 : -FP.Core.dkey (4636033603912859648 : UInt64) ≤ FP.Core.dkey x := by have := (own_lt_g own_n90_nn hx0).mp hc24; omega
        refine own_st (fun t_ k_ => XS.iconst X0.here hx rfl (hb hby d1_35) k_) ?_
        show own_Go p e below s₁ (mkF m 36 #[.val (.double x), .second, .val (.double (4636033603912859648 : UInt64)), .second, .val (.int (0 : Int32)), .unset] [(.int (1 : Int32))]) _
        refine own_st (fun t_ k_ => XS.goto X0.here hx rfl (pc0 := 36) (pc' := 40) rfl (hb hby d1_36) (by decide) (by decide) k_) ?_
        show own_Go p e below s₁ (mkF m 40 #[.val (.double x), .second, .val (.double (4636033603912859648 : UInt64)), .second, .val (.int (0 : Int32)), .unset] [(.int (1 : Int32))]) _
        refine own_st (fun t_ k_ => XS.istore X0.here hx rfl (hb hby d1_40) rfl (l' := #[.val (.double x), .second, .val (.double (4636033603912859648 : UInt64)), .second, .val (.int (0 : Int32)), .val (.int (1 : Int32))]) rfl k_) ?_
        show own_Go p e below s₁ (mkF m 42 #[.val (.double x), .second, .val (.double (4636033603912859648 : UInt64)), .second, .val (.int (0 : Int32)), .val (.int (1 : Int32))] []) _
        refine own_st (fun t_ k_ => XS.iload X0.here hx rfl (hb hby d1_42) rfl k_) ?_
        show own_Go p e below s₁ (mkF m 44 #[.val (.double x), .second, .val (.double (4636033603912859648 : UInt64)), .second, .val (.int (0 : Int32)), .val (.int (1 : Int32))] [(.int (0 : Int32))]) _
        refine own_st (fun t_ k_ => XS.ifYes X0.here hx rfl (pc0 := 44) (pc' := 56) rfl (hb hby d1_44) rfl (by decide) (by decide) (by decide) k_) ?_
        show own_Go p e below s₁ (mkF m 56 #[.val (.double x), .second, .val (.double (4636033603912859648 : UInt64)), .second, .val (.int (0 : Int32)), .val (.int (1 : Int32))] []) _
        refine own_st (fun t_ k_ => XS.iconst X0.here hx rfl (hb hby d1_56) k_) ?_
        show own_Go p e below s₁ (mkF m 57 #[.val (.double x), .second, .val (.double (4636033603912859648 : UInt64)), .second, .val (.int (0 : Int32)), .val (.int (1 : Int32))] [(.int (0 : Int32))]) _
        obtain ⟨fs, hr, hrun, hended, hW, hsame⟩ := X0.leave (v := some (.int (0 : Int32))) (fun h => by rw [Bd.returns] at h; cases h)
        refine own_fin (retN X0 hx (t := .boolean) Bd.returns (by simp) (hb hby d1_57) hr) ⟨hrun, hended, _, _, rfl, ?_, ⟨_, rfl⟩, hW, hsame.mono (by decide) (by decide)⟩
        show Q_rmWi90 Z x h0 n0 _ s₁.heap _
        rw [e0]
        exact ⟨(0 : Int32), rfl, N0, rfl, ((if_neg (fun h => k1 h.1)).symm)⟩
      · skip
        refine own_st (fun t_ k_ => XS.ifNo X0.here hx rfl (hb hby d1_24) rfl ((if0 _ _).trans (flt hc24).1) k_) ?_
        show own_Go p e below s₁ (mkF m 27 #[.val (.double x), .second, .val (.double (4636033603912859648 : UInt64)), .second, .val (.int (0 : Int32)), .unset] []) _
        refine own_st (fun t_ k_ => XS.dloadN X0.here hx rfl (hb hby d1_27) rfl k_) ?_
        show own_Go p e below s₁ (mkF m 28 #[.val (.double x), .second, .val (.double (4636033603912859648 : UInt64)), .second, .val (.int (0 : Int32)), .unset] [(.double x)]) _
        refine own_st (fun t_ k_ => XS.dconst0 X0.here hx rfl (hb hby d1_28) rfl k_) ?_
        show own_Go p e below s₁ (mkF m 29 #[.val (.double x), .second, .val (.double (4636033603912859648 : UInt64)), .second, .val (.int (0 : Int32)), .unset] [(.double FP.dconst0), (.double x)]) _
        refine own_st (fun t_ k_ => XS.dloadN X0.here hx rfl (hb hby d1_29) rfl k_) ?_
        show own_Go p e below s₁ (mkF m 30 #[.val (.double x), .second, .val (.double (4636033603912859648 : UInt64)), .second, .val (.int (0 : Int32)), .unset] [(.double (4636033603912859648 : UInt64)), (.double FP.dconst0), (.double x)]) _
        refine own_st (fun t_ k_ => XS.dsubS X0.here hx rfl (hb hby d1_30) rfl own_n90_nn rfl k_) ?_
        show own_Go p e below s₁ (mkF m 31 #[.val (.double x), .second, .val (.double (4636033603912859648 : UInt64)), .second, .val (.int (0 : Int32)), .unset] [(.double (FP.dsub FP.dconst0 (4636033603912859648 : UInt64))), (.double x)]) _
        refine own_st (fun t_ k_ => XS.dcmpS X0.here hx rfl (hb hby d1_31) rfl rfl k_) ?_
        show own_Go p e below s₁ (mkF m 32 #[.val (.double x), .second, .val (.double (4636033603912859648 : UInt64)), .second, .val (.int (0 : Int32)), .unset] [(.int (cmpValue (FP.dcmp x (FP.dsub FP.dconst0 (4636033603912859648 : UInt64))) .l))]) _
        by_cases hc32 : (cmpValue (FP.dcmp x (FP.dsub FP.dconst0 (4636033603912859648 : UInt64))) .l) = (0 : Int32)
        · skip
          refine own_st (fun t_ k_ => XS.ifNo X0.here hx rfl (hb hby d1_32) rfl ((if0 _ _).trans (teq hc32).2) k_) ?_
          show own_Go p e below s₁ (mkF m 35 #[.val (.double x), .second, .val (.double (4636033603912859648 : UInt64)), .second, .val (.int (0 : Int32)), .unset] []) _
          have k2 : -FP.Core.dkey (4636033603912859648 : UInt64) ≤ FP.Core.dkey x := by have := (own_eq_l hx0 own_n90_nn).mp hc32; omega
          refine own_st (fun t_ k_ => XS.iconst X0.here hx rfl (hb hby d1_35) k_) ?_
          show own_Go p e below s₁ (mkF m 36 #[.val (.double x), .second, .val (.double (4636033603912859648 : UInt64)), .second, .val (.int (0 : Int32)), .unset] [(.int (1 : Int32))]) _
          refine own_st (fun t_ k_ => XS.goto X0.here hx rfl (pc0 := 36) (pc' := 40) rfl (hb hby d1_36) (by decide) (by decide) k_) ?_
          show own_Go p e below s₁ (mkF m 40 #[.val (.double x), .second, .val (.double (4636033603912859648 : UInt64)), .second, .val (.int (0 : Int32)), .unset] [(.int (1 : Int32))]) _
          refine own_st (fun t_ k_ => XS.istore X0.here hx rfl (hb hby d1_40) rfl (l' := #[.val (.double x), .second, .val (.double (4636033603912859648 : UInt64)), .second, .val (.int (0 : Int32)), .val (.int (1 : Int32))]) rfl k_) ?_
          show own_Go p e below s₁ (mkF m 42 #[.val (.double x), .second, .val (.double (4636033603912859648 : UInt64)), .second, .val (.int (0 : Int32)), .val (.int (1 : Int32))] []) _
          refine own_st (fun t_ k_ => XS.iload X0.here hx rfl (hb hby d1_42) rfl k_) ?_
          show own_Go p e below s₁ (mkF m 44 #[.val (.double x), .second, .val (.double (4636033603912859648 : UInt64)), .second, .val (.int (0 : Int32)), .val (.int (1 : Int32))] [(.int (0 : Int32))]) _
          refine own_st (fun t_ k_ => XS.ifYes X0.here hx rfl (pc0 := 44) (pc' := 56) rfl (hb hby d1_44) rfl (by decide) (by decide) (by decide) k_) ?_
          show own_Go p e below s₁ (mkF m 56 #[.val (.double x), .second, .val (.double (4636033603912859648 : UInt64)), .second, .val (.int (0 : Int32)), .val (.int (1 : Int32))] []) _
          refine own_st (fun t_ k_ => XS.iconst X0.here hx rfl (hb hby d1_56) k_) ?_
          show own_Go p e below s₁ (mkF m 57 #[.val (.double x), .second, .val (.double (4636033603912859648 : UInt64)), .second, .val (.int (0 : Int32)), .val (.int (1 : Int32))] [(.int (0 : Int32))]) _
          obtain ⟨fs, hr, hrun, hended, hW, hsame⟩ := X0.leave (v := some (.int (0 : Int32))) (fun h => by rw [Bd.returns] at h; cases h)
          refine own_fin (retN X0 hx (t := .boolean) Bd.returns (by simp) (hb hby d1_57) hr) ⟨hrun, hended, _, _, rfl, ?_, ⟨_, rfl⟩, hW, hsame.mono (by decide) (by decide)⟩
          show Q_rmWi90 Z x h0 n0 _ s₁.heap _
          rw [e0]
          exact ⟨(0 : Int32), rfl, N0, rfl, ((if_neg (fun h => k1 h.1)).symm)⟩
        · skip
          refine own_st (fun t_ k_ => XS.ifYes X0.here hx rfl (pc0 := 32) (pc' := 39) rfl (hb hby d1_32) rfl ((if0 _ _).trans (feq hc32).2) (by decide) (by decide) k_) ?_
          show own_Go p e below s₁ (mkF m 39 #[.val (.double x), .second, .val (.double (4636033603912859648 : UInt64)), .second, .val (.int (0 : Int32)), .unset] []) _
          have k2 : ¬ -FP.Core.dkey (4636033603912859648 : UInt64) ≤ FP.Core.dkey x := fun h => by have u1 : ¬ FP.Core.dkey (FP.dsub FP.dconst0 (4636033603912859648 : UInt64)) < FP.Core.dkey x := fun h2 => hc24 ((own_lt_g own_n90_nn hx0).mpr h2); have u2 : ¬ FP.Core.dkey x = FP.Core.dkey (FP.dsub FP.dconst0 (4636033603912859648 : UInt64)) := fun h2 => hc32 ((own_eq_l hx0 own_n90_nn).mpr h2); omega
          refine own_st (fun t_ k_ => XS.iconst X0.here hx rfl (hb hby d1_39) k_) ?_
          show own_Go p e below s₁ (mkF m 40 #[.val (.double x), .second, .val (.double (4636033603912859648 : UInt64)), .second, .val (.int (0 : Int32)), .unset] [(.int (0 : Int32))]) _
          refine own_st (fun t_ k_ => XS.istore X0.here hx rfl (hb hby d1_40) rfl (l' := #[.val (.double x), .second, .val (.double (4636033603912859648 : UInt64)), .second, .val (.int (0 : Int32)), .val (.int (0 : Int32))]) rfl k_) ?_
          show own_Go p e below s₁ (mkF m 42 #[.val (.double x), .second, .val (.double (4636033603912859648 : UInt64)), .second, .val (.int (0 : Int32)), .val (.int (0 : Int32))] []) _
          refine own_st (fun t_ k_ => XS.iload X0.here hx rfl (hb hby d1_42) rfl k_) ?_
          show own_Go p e below s₁ (mkF m 44 #[.val (.double x), .second, .val (.double (4636033603912859648 : UInt64)), .second, .val (.int (0 : Int32)), .val (.int (0 : Int32))] [(.int (0 : Int32))]) _
          refine own_st (fun t_ k_ => XS.ifYes X0.here hx rfl (pc0 := 44) (pc' := 56) rfl (hb hby d1_44) rfl (by decide) (by decide) (by decide) k_) ?_
          show own_Go p e below s₁ (mkF m 56 #[.val (.double x), .second, .val (.double (4636033603912859648 : UInt64)), .second, .val (.int (0 : Int32)), .val (.int (0 : Int32))] []) _
          refine own_st (fun t_ k_ => XS.iconst X0.here hx rfl (hb hby d1_56) k_) ?_
          show own_Go p e below s₁ (mkF m 57 #[.val (.double x), .second, .val (.double (4636033603912859648 : UInt64)), .second, .val (.int (0 : Int32)), .val (.int (0 : Int32))] [(.int (0 : Int32))]) _
          obtain ⟨fs, hr, hrun, hended, hW, hsame⟩ := X0.leave (v := some (.int (0 : Int32))) (fun h => by rw [Bd.returns] at h; cases h)
          refine own_fin (retN X0 hx (t := .boolean) Bd.returns (by simp) (hb hby d1_57) hr) ⟨hrun, hended, _, _, rfl, ?_, ⟨_, rfl⟩, hW, hsame.mono (by decide) (by decide)⟩
          show Q_rmWi90 Z x h0 n0 _ s₁.heap _
          rw [e0]
          exact ⟨(0 : Int32), rfl, N0, rfl, ((if_neg (fun h => k1 h.1)).symm)⟩
theorem own_absB : jdk_29_method_64_code = Jvm.Free.Fl.Abs.absDCode := by decide +kernel
theorem d2_0 : decode prog_31_method_2_code 0 = .ok (.dload_n 0, 1) := by decide +kernel
theorem d2_1 : decode prog_31_method_2_code 1 = .ok (.invokestatic 7, 3) := by decide +kernel
theorem d2_4 : decode prog_31_method_2_code 4 = .ok (.ldc2_w 13, 3) := by decide +kernel
theorem d2_7 : decode prog_31_method_2_code 7 = .ok (.dcmp .g, 1) := by decide +kernel
theorem d2_8 : decode prog_31_method_2_code 8 = .ok (.ifCond .gt 18, 3) := by decide +kernel
theorem d2_11 : decode prog_31_method_2_code 11 = .ok (.dload_n 2, 1) := by decide +kernel
theorem d2_12 : decode prog_31_method_2_code 12 = .ok (.invokestatic 7, 3) := by decide +kernel
theorem d2_15 : decode prog_31_method_2_code 15 = .ok (.ldc2_w 15, 3) := by decide +kernel
theorem d2_18 : decode prog_31_method_2_code 18 = .ok (.dcmp .g, 1) := by decide +kernel
theorem d2_19 : decode prog_31_method_2_code 19 = .ok (.ifCond .gt 7, 3) := by decide +kernel
theorem d2_22 : decode prog_31_method_2_code 22 = .ok (.iconst 1, 1) := by decide +kernel
theorem d2_23 : decode prog_31_method_2_code 23 = .ok (.goto 4, 3) := by decide +kernel
theorem d2_26 : decode prog_31_method_2_code 26 = .ok (.iconst 0, 1) := by decide +kernel
theorem d2_27 : decode prog_31_method_2_code 27 = .ok (.ireturn, 1) := by decide +kernel
theorem pn_2 : plainName "com/example/envelope/envelope/model/Wgs84" = true := by first | (simp [plainName, overriddenIn]; done) | decide +kernel
theorem pd__D_D : parseMethodDescriptor "(D)D" = some ⟨[.double], some .double⟩ := by decide +kernel
theorem ef_rmIp (m : MethodId) (x0 : UInt64) (x1 : UInt64) : entryFrame m #[(.double x0), (.double x1)] 4 = mkF m 0 #[.val (.double x0), .second, .val (.double x1), .second] [] := by first | (simp [entryFrame, mkF, argsToLocals, Value.category]; done) | rfl
def Q_rmIp (Z : State) (x : UInt64) (y : UInt64) (h0 : Heap) (n0 : Nat) (v : Option Value) (h : Heap) (L : List Loc) : Prop := ∃ r : Int32, v = some (.int r) ∧ Fr n0 L ∧ h = h0 ∧ (r = if own_in x (4640537203540230144 : UInt64) ∧ own_in y (4636033603912859648 : UInt64) then (1 : Int32) else (0 : Int32))
set_option maxRecDepth 65536 in
set_option maxHeartbeats 40000000 in
theorem rmIp (l : Launch) (Z : State) (a0 : Array Value) (hw : ∀ d ∈ tables_1, d.before a0 Z = true) (ws : List Jvm.Cond) (x : UInt64) (y : UInt64) (h0 : Heap) (n0 : Nat) (Z0 : n0 ≤ h0.size) (hx0 : (Jvm.Free.Fl.NoNaN64 x)) (hy0 : (Jvm.Free.Fl.NoNaN64 y)) :
    MetFree l (⟨"com/example/envelope/envelope/model/Wgs84", "isPosition", "(DD)Z"⟩ : MethodName) (head1 (Jvm.Cond.code (⟨"com/example/envelope/envelope/model/Wgs84", "isPosition", "(DD)Z"⟩ : MethodName) prog_31_method_2_code 4 (some .boolean) :: ws) ({ frames := 1, cells := 0, slots := 0, locals := 13 } : Room)) (fun a U => a = #[(.double x), (.double y)] ∧ Z.Warmed39 U.vm ∧ U.heap = h0) (fun _ _ _ _ _ => True) (fun _ U o U' => ∃ v L, o = .returned v ∧ Q_rmIp Z x y h0 n0 v U'.heap L ∧ FrameEnd U o U' L ({ frames := 1, cells := 0, slots := 0, locals := 13 } : Room).cells ({ frames := 1, cells := 0, slots := 0, locals := 13 } : Room).slots) := by
  refine MetFree.of_bodySF (plainFor_of_name pn_2) hisR ?_
  intro p e s m args below meth c s₁ Bd hml0 hP hK
  obtain ⟨rfl, hZ, hh⟩ := hP
  have hx := Bd.exec
  have hby := Bd.bytes
  have hml : c.maxLocals = 4 := hml0
  have hown : s.vm.findClass "com/example/envelope/envelope/model/Wgs84" = some m.cls := findClass_of_methodNamed Bd.named
  have hnm := (name_of_methodNamed Bd.named Bd.method).1
  have X0 : Stand p l e ({ frames := 1, cells := 0, slots := 0, locals := 13 } : Room) s m #[(.double x), (.double y)] below meth c s₁ [] 0 0 := Stand.of_body Bd
  have e0 : s₁.heap = h0 := by rw [← hh, Bd.state]; rfl
  have N0 := Fr.nil n0
  refine own_enter (ef_rmIp m x y) ?_
  refine own_st (fun t_ k_ => XS.dloadN X0.here hx rfl (hb hby d2_0) rfl k_) ?_
  show own_Go p e below s₁ (mkF m 1 #[.val (.double x), .second, .val (.double y), .second] [(.double x)]) _
  obtain ⟨T1, X1, e1, st1⟩ := natS X0 hx hZ (y := Jvm.Free.Fl.Abs.absDN) (by0 := jdk_29_method_64_code) (ml := 2) (rt := some .double) hown (hw _ (List.mem_of_getElem? (i := 11) rfl)) (hw _ (List.mem_of_getElem? (i := 12) rfl)) (hw _ (List.mem_of_getElem? (i := 13) rfl)) (hw _ (List.mem_of_getElem? (i := 14) rfl)) (by decide) e0 (W := 0) (F := fun a' => a' = #[.double x] ∧ Jvm.Free.Fl.NoNaN64 x) (val := .double (x &&& 0x7fffffffffffffff)) (val' := .double (x &&& 0x7fffffffffffffff)) (fun hc => Jvm.Free.Fl.Abs.absD_pays x (own_absB ▸ hc) (by decide) (by decide)) (g := (mkF m 1 #[.val (.double x), .second, .val (.double y), .second] [(.double x)])) rfl (by rw [hml]; rfl) (argsL := [.double x]) (rest := []) (lenOf pd__D_D rfl) rfl (by show 2 * 0 + _ ≤ _; exact Nat.le_of_eq rfl) (hb hby d2_1) (by decide) (by decide) ⟨rfl, hx0⟩ rfl
  refine own_st st1 ?_
  show own_Go p e below T1 (mkF m 4 #[.val (.double x), .second, .val (.double y), .second] [(.double (x &&& 0x7fffffffffffffff))]) _
  refine own_st (fun t_ k_ => X1.ldc2DoubleC hx hown (mvT hZ (hw _ (List.mem_of_getElem? (i := 15) rfl))) (g := (mkF m 4 #[.val (.double x), .second, .val (.double y), .second] [(.double (x &&& 0x7fffffffffffffff))])) rfl (hb hby d2_4) _ k_) ?_
  show own_Go p e below T1 (mkF m 7 #[.val (.double x), .second, .val (.double y), .second] [(.double (4640537203540230144 : UInt64)), (.double (x &&& 0x7fffffffffffffff))]) _
  refine own_st (fun t_ k_ => XS.dcmpS X1.here hx rfl (hb hby d2_7) rfl rfl k_) ?_
  show own_Go p e below T1 (mkF m 8 #[.val (.double x), .second, .val (.double y), .second] [(.int (cmpValue (FP.dcmp (x &&& 0x7fffffffffffffff) (4640537203540230144 : UInt64)) .g))]) _
  by_cases hc8 : (0 : Int32) < (cmpValue (FP.dcmp (x &&& 0x7fffffffffffffff) (4640537203540230144 : UInt64)) .g)
  · skip
    refine own_st (fun t_ k_ => XS.ifYes X1.here hx rfl (pc0 := 8) (pc' := 26) rfl (hb hby d2_8) rfl ((if0 _ _).trans (tlt hc8).2.2.1) (by decide) (by decide) k_) ?_
    show own_Go p e below T1 (mkF m 26 #[.val (.double x), .second, .val (.double y), .second] []) _
    refine own_st (fun t_ k_ => XS.iconst X1.here hx rfl (hb hby d2_26) k_) ?_
    show own_Go p e below T1 (mkF m 27 #[.val (.double x), .second, .val (.double y), .second] [(.int (0 : Int32))]) _
    obtain ⟨fs, hr, hrun, hended, hW, hsame⟩ := X1.leave (v := some (.int (0 : Int32))) (fun h => by rw [Bd.returns] at h; cases h)
    refine own_fin (retN X1 hx (t := .boolean) Bd.returns (by simp) (hb hby d2_27) hr) ⟨hrun, hended, _, _, rfl, ?_, ⟨_, rfl⟩, hW, hsame.mono (by decide) (by decide)⟩
    show Q_rmIp Z x y h0 n0 _ T1.heap _
    rw [e1]
    exact ⟨(0 : Int32), rfl, N0, rfl, ((if_neg (fun h => own_abs_in.mpr h.1 ((own_gt_g (own_abs_nn hx0) own_b180_nn).mp hc8))).symm)⟩
  · skip
    refine own_st (fun t_ k_ => XS.ifNo X1.here hx rfl (hb hby d2_8) rfl ((if0 _ _).trans (flt hc8).2.2.1) k_) ?_
    show own_Go p e below T1 (mkF m 11 #[.val (.double x), .second, .val (.double y), .second] []) _
    have k1 : own_in x (4640537203540230144 : UInt64) := own_abs_in.mp fun h => hc8 ((own_gt_g (own_abs_nn hx0) own_b180_nn).mpr h)
    refine own_st (fun t_ k_ => XS.dloadN X1.here hx rfl (hb hby d2_11) rfl k_) ?_
    show own_Go p e below T1 (mkF m 12 #[.val (.double x), .second, .val (.double y), .second] [(.double y)]) _
    obtain ⟨T2, X2, e2, st2⟩ := natS X1 hx hZ (y := Jvm.Free.Fl.Abs.absDN) (by0 := jdk_29_method_64_code) (ml := 2) (rt := some .double) hown (hw _ (List.mem_of_getElem? (i := 11) rfl)) (hw _ (List.mem_of_getElem? (i := 12) rfl)) (hw _ (List.mem_of_getElem? (i := 13) rfl)) (hw _ (List.mem_of_getElem? (i := 14) rfl)) (by decide) e1 (W := 0) (F := fun a' => a' = #[.double y] ∧ Jvm.Free.Fl.NoNaN64 y) (val := .double (y &&& 0x7fffffffffffffff)) (val' := .double (y &&& 0x7fffffffffffffff)) (fun hc => Jvm.Free.Fl.Abs.absD_pays y (own_absB ▸ hc) (by decide) (by decide)) (g := (mkF m 12 #[.val (.double x), .second, .val (.double y), .second] [(.double y)])) rfl (by rw [hml]; rfl) (argsL := [.double y]) (rest := []) (lenOf pd__D_D rfl) rfl (by show 2 * 0 + _ ≤ _; exact Nat.le_of_eq rfl) (hb hby d2_12) (by decide) (by decide) ⟨rfl, hy0⟩ rfl
    refine own_st st2 ?_
    show own_Go p e below T2 (mkF m 15 #[.val (.double x), .second, .val (.double y), .second] [(.double (y &&& 0x7fffffffffffffff))]) _
    refine own_st (fun t_ k_ => X2.ldc2DoubleC hx hown (mvT hZ (hw _ (List.mem_of_getElem? (i := 16) rfl))) (g := (mkF m 15 #[.val (.double x), .second, .val (.double y), .second] [(.double (y &&& 0x7fffffffffffffff))])) rfl (hb hby d2_15) _ k_) ?_
    show own_Go p e below T2 (mkF m 18 #[.val (.double x), .second, .val (.double y), .second] [(.double (4636033603912859648 : UInt64)), (.double (y &&& 0x7fffffffffffffff))]) _
    refine own_st (fun t_ k_ => XS.dcmpS X2.here hx rfl (hb hby d2_18) rfl rfl k_) ?_
    show own_Go p e below T2 (mkF m 19 #[.val (.double x), .second, .val (.double y), .second] [(.int (cmpValue (FP.dcmp (y &&& 0x7fffffffffffffff) (4636033603912859648 : UInt64)) .g))]) _
    by_cases hc19 : (0 : Int32) < (cmpValue (FP.dcmp (y &&& 0x7fffffffffffffff) (4636033603912859648 : UInt64)) .g)
    · skip
      refine own_st (fun t_ k_ => XS.ifYes X2.here hx rfl (pc0 := 19) (pc' := 26) rfl (hb hby d2_19) rfl ((if0 _ _).trans (tlt hc19).2.2.1) (by decide) (by decide) k_) ?_
      show own_Go p e below T2 (mkF m 26 #[.val (.double x), .second, .val (.double y), .second] []) _
      refine own_st (fun t_ k_ => XS.iconst X2.here hx rfl (hb hby d2_26) k_) ?_
      show own_Go p e below T2 (mkF m 27 #[.val (.double x), .second, .val (.double y), .second] [(.int (0 : Int32))]) _
      obtain ⟨fs, hr, hrun, hended, hW, hsame⟩ := X2.leave (v := some (.int (0 : Int32))) (fun h => by rw [Bd.returns] at h; cases h)
      refine own_fin (retN X2 hx (t := .boolean) Bd.returns (by simp) (hb hby d2_27) hr) ⟨hrun, hended, _, _, rfl, ?_, ⟨_, rfl⟩, hW, hsame.mono (by decide) (by decide)⟩
      show Q_rmIp Z x y h0 n0 _ T2.heap _
      rw [e2]
      exact ⟨(0 : Int32), rfl, N0, rfl, ((if_neg (fun h => own_abs_in.mpr h.2 ((own_gt_g (own_abs_nn hy0) own_b90_nn).mp hc19))).symm)⟩
    · skip
      refine own_st (fun t_ k_ => XS.ifNo X2.here hx rfl (hb hby d2_19) rfl ((if0 _ _).trans (flt hc19).2.2.1) k_) ?_
      show own_Go p e below T2 (mkF m 22 #[.val (.double x), .second, .val (.double y), .second] []) _
      refine own_st (fun t_ k_ => XS.iconst X2.here hx rfl (hb hby d2_22) k_) ?_
      show own_Go p e below T2 (mkF m 23 #[.val (.double x), .second, .val (.double y), .second] [(.int (1 : Int32))]) _
      refine own_st (fun t_ k_ => XS.goto X2.here hx rfl (pc0 := 23) (pc' := 27) rfl (hb hby d2_23) (by decide) (by decide) k_) ?_
      show own_Go p e below T2 (mkF m 27 #[.val (.double x), .second, .val (.double y), .second] [(.int (1 : Int32))]) _
      obtain ⟨fs, hr, hrun, hended, hW, hsame⟩ := X2.leave (v := some (.int (1 : Int32))) (fun h => by rw [Bd.returns] at h; cases h)
      refine own_fin (retN X2 hx (t := .boolean) Bd.returns (by simp) (hb hby d2_27) hr) ⟨hrun, hended, _, _, rfl, ?_, ⟨_, rfl⟩, hW, hsame.mono (by decide) (by decide)⟩
      show Q_rmIp Z x y h0 n0 _ T2.heap _
      rw [e2]
      exact ⟨(1 : Int32), rfl, N0, rfl, ((if_pos ⟨k1, own_abs_in.mp fun h => hc19 ((own_gt_g (own_abs_nn hy0) own_b90_nn).mpr h)⟩).symm)⟩
theorem pn_0 : plainName "com/example/envelope/envelope/model/Wgs84IsPositionPinLaw" = true := by first | (simp [plainName, overriddenIn]; done) | decide +kernel
theorem pd__DD_Z : parseMethodDescriptor "(DD)Z" = some ⟨[.double, .double], some .boolean⟩ := by decide +kernel
theorem ef_rmLaw (m : MethodId) (x0 : Int32) (x1 : Int32) : entryFrame m #[(.int x0), (.int x1)] maxLocals = mkF m 0 #[.val (.int x0), .val (.int x1), .unset, .unset, .unset, .unset, .unset, .unset] [] := by first | (simp [entryFrame, mkF, argsToLocals, Value.category, maxLocals]; done) | rfl
def Q_rmLaw (Z : State) (p0 : Int32) (p1 : Int32) (h0 : Heap) (n0 : Nat) (v : Option Value) (h : Heap) (L : List Loc) : Prop := v = some (.int (1 : Int32)) ∧ Fr n0 L ∧ h = h0
set_option maxRecDepth 65536 in
set_option maxHeartbeats 40000000 in
theorem rmLaw (l : Launch) (Z : State) (a0 : Array Value) (hw : ∀ d ∈ tables_1, d.before a0 Z = true) (ws : List Jvm.Cond) (p0 : Int32) (p1 : Int32) (h0 : Heap) (n0 : Nat) (Z0 : n0 ≤ h0.size) :
    MetFree l x (head1 (Jvm.Cond.code x code maxLocals ret :: ws) room_1) (fun a U => a = #[(.int p0), (.int p1)] ∧ Z.Warmed39 U.vm ∧ U.heap = h0) (fun _ _ _ _ _ => True) (fun _ U o U' => ∃ v L, o = .returned v ∧ Q_rmLaw Z p0 p1 h0 n0 v U'.heap L ∧ FrameEnd U o U' L 0 0) := by
  refine MetFree.of_bodySF (plainFor_of_name pn_0) hisR ?_
  intro p e s m args below meth c s₁ Bd hml0 hP hK
  obtain ⟨rfl, hZ, hh⟩ := hP
  have hx := Bd.exec
  have hby := Bd.bytes
  have hml : c.maxLocals = 8 := hml0
  have hown : s.vm.findClass "com/example/envelope/envelope/model/Wgs84IsPositionPinLaw" = some m.cls := findClass_of_methodNamed Bd.named
  have hnm := (name_of_methodNamed Bd.named Bd.method).1
  have X0 : Stand p l e room_1 s m #[(.int p0), (.int p1)] below meth c s₁ [] 0 0 := Stand.of_body Bd
  have e0 : s₁.heap = h0 := by rw [← hh, Bd.state]; rfl
  have N0 := Fr.nil n0
  refine own_enter (ef_rmLaw m p0 p1) ?_
  refine own_st (fun t_ k_ => XS.iloadN X0.here hx rfl (hb hby at_0) rfl k_) ?_
  show own_Go p e below s₁ (mkF m 1 #[.val (.int p0), .val (.int p1), .unset, .unset, .unset, .unset, .unset, .unset] [(.int p0)]) _
  refine own_st (fun t_ k_ => XS.i2dS X0.here hx rfl (hb hby at_1) rfl rfl k_) ?_
  show own_Go p e below s₁ (mkF m 2 #[.val (.int p0), .val (.int p1), .unset, .unset, .unset, .unset, .unset, .unset] [(.double (FP.i2d p0))]) _
  refine own_st (fun t_ k_ => X0.ldc2DoubleC hx hown (mvT hZ (hw _ (List.mem_of_getElem? (i := 0) rfl))) (g := (mkF m 2 #[.val (.int p0), .val (.int p1), .unset, .unset, .unset, .unset, .unset, .unset] [(.double (FP.i2d p0))])) rfl (hb hby at_2) _ k_) ?_
  show own_Go p e below s₁ (mkF m 5 #[.val (.int p0), .val (.int p1), .unset, .unset, .unset, .unset, .unset, .unset] [(.double (4598175219545276416 : UInt64)), (.double (FP.i2d p0))]) _
  refine own_st (fun t_ k_ => XS.dmulS X0.here hx rfl (hb hby at_5) rfl (own_q_nn p0) rfl k_) ?_
  show own_Go p e below s₁ (mkF m 6 #[.val (.int p0), .val (.int p1), .unset, .unset, .unset, .unset, .unset, .unset] [(.double (FP.dmul (FP.i2d p0) (4598175219545276416 : UInt64)))]) _
  show own_Go p e below s₁ (mkF m 6 #[.val (.int p0), .val (.int p1), .unset, .unset, .unset, .unset, .unset, .unset] [(.double (own_q p0))]) _
  refine own_st (fun t_ k_ => XS.dstoreN X0.here hx rfl (hb hby at_6) rfl (l' := #[.val (.int p0), .val (.int p1), .val (.double (own_q p0)), .second, .unset, .unset, .unset, .unset]) rfl k_) ?_
  show own_Go p e below s₁ (mkF m 7 #[.val (.int p0), .val (.int p1), .val (.double (own_q p0)), .second, .unset, .unset, .unset, .unset] []) _
  refine own_st (fun t_ k_ => XS.iloadN X0.here hx rfl (hb hby at_7) rfl k_) ?_
  show own_Go p e below s₁ (mkF m 8 #[.val (.int p0), .val (.int p1), .val (.double (own_q p0)), .second, .unset, .unset, .unset, .unset] [(.int p1)]) _
  refine own_st (fun t_ k_ => XS.i2dS X0.here hx rfl (hb hby at_8) rfl rfl k_) ?_
  show own_Go p e below s₁ (mkF m 9 #[.val (.int p0), .val (.int p1), .val (.double (own_q p0)), .second, .unset, .unset, .unset, .unset] [(.double (FP.i2d p1))]) _
  refine own_st (fun t_ k_ => X0.ldc2DoubleC hx hown (mvT hZ (hw _ (List.mem_of_getElem? (i := 0) rfl))) (g := (mkF m 9 #[.val (.int p0), .val (.int p1), .val (.double (own_q p0)), .second, .unset, .unset, .unset, .unset] [(.double (FP.i2d p1))])) rfl (hb hby at_9) _ k_) ?_
  show own_Go p e below s₁ (mkF m 12 #[.val (.int p0), .val (.int p1), .val (.double (own_q p0)), .second, .unset, .unset, .unset, .unset] [(.double (4598175219545276416 : UInt64)), (.double (FP.i2d p1))]) _
  refine own_st (fun t_ k_ => XS.dmulS X0.here hx rfl (hb hby at_12) rfl (own_q_nn p1) rfl k_) ?_
  show own_Go p e below s₁ (mkF m 13 #[.val (.int p0), .val (.int p1), .val (.double (own_q p0)), .second, .unset, .unset, .unset, .unset] [(.double (FP.dmul (FP.i2d p1) (4598175219545276416 : UInt64)))]) _
  show own_Go p e below s₁ (mkF m 13 #[.val (.int p0), .val (.int p1), .val (.double (own_q p0)), .second, .unset, .unset, .unset, .unset] [(.double (own_q p1))]) _
  refine own_st (fun t_ k_ => XS.dstore X0.here hx rfl (hb hby at_13) rfl (l' := #[.val (.int p0), .val (.int p1), .val (.double (own_q p0)), .second, .val (.double (own_q p1)), .second, .unset, .unset]) rfl k_) ?_
  show own_Go p e below s₁ (mkF m 15 #[.val (.int p0), .val (.int p1), .val (.double (own_q p0)), .second, .val (.double (own_q p1)), .second, .unset, .unset] []) _
  refine own_st (fun t_ k_ => XS.dloadN X0.here hx rfl (hb hby at_15) rfl k_) ?_
  show own_Go p e below s₁ (mkF m 16 #[.val (.int p0), .val (.int p1), .val (.double (own_q p0)), .second, .val (.double (own_q p1)), .second, .unset, .unset] [(.double (own_q p0))]) _
  refine own_st (fun t_ k_ => X0.ldc2DoubleC hx hown (mvT hZ (hw _ (List.mem_of_getElem? (i := 1) rfl))) (g := (mkF m 16 #[.val (.int p0), .val (.int p1), .val (.double (own_q p0)), .second, .val (.double (own_q p1)), .second, .unset, .unset] [(.double (own_q p0))])) rfl (hb hby at_16) _ k_) ?_
  show own_Go p e below s₁ (mkF m 19 #[.val (.int p0), .val (.int p1), .val (.double (own_q p0)), .second, .val (.double (own_q p1)), .second, .unset, .unset] [(.double (4640537203540230144 : UInt64)), (.double (own_q p0))]) _
  obtain ⟨_, _, ⟨T1, L1, k1, n1⟩, -, X1, ⟨Lc1, hQ1, l1, y1, z1⟩, st1⟩ := Jvm.LawKit.callS X0 hx (y := (⟨"com/example/envelope/envelope/model/Wgs84IsPositionPinLaw", "within", "(DD)Z"⟩ : MethodName)) hown (mvT hZ (hw _ (List.mem_of_getElem? (i := 2) rfl))) (mvT hZ (hw _ (List.mem_of_getElem? (i := 3) rfl))) (mvT hZ (hw _ (List.mem_of_getElem? (i := 4) rfl))) (mvT hZ (hw _ (List.mem_of_getElem? (i := 5) rfl))) (by decide) (backOf (W := 0) (rmWi180 l Z a0 hw [] ((own_q p0)) h0 n0 Z0 (own_q_nn p0)) hZ (hw _ (List.mem_of_getElem? (i := 5) rfl)) (hw _ (List.mem_of_getElem? (i := 4) rfl)) (by decide) (by decide)) (g := (mkF m 19 #[.val (.int p0), .val (.int p1), .val (.double (own_q p0)), .second, .val (.double (own_q p1)), .second, .unset, .unset] [(.double (4640537203540230144 : UInt64)), (.double (own_q p0))])) rfl (by rw [hml]; rfl) (argsL := [(.double (own_q p0)), (.double (4640537203540230144 : UInt64))]) (rest := []) (lenOf pd__DD_Z rfl) rfl (by show 2 * 0 + _ ≤ _; exact Nat.le_of_eq rfl) (hb hby at_19) (fun _ _ => ⟨rfl, e0, (by decide : 0 + 0 ≤ _), (by decide : 0 + 0 ≤ _)⟩)
  dsimp only [Pt.U, Pt.locs, Pt.cells, Pt.slots] at X1 l1 y1 z1 st1 hQ1
  subst l1 y1 z1
  obtain ⟨r_1, rfl, Nq1, eH1, q1_0⟩ := hQ1
  have N1 := Fr.app N0 Nq1
  refine own_st st1 ?_
  show own_Go p e below T1 (mkF m 22 #[.val (.int p0), .val (.int p1), .val (.double (own_q p0)), .second, .val (.double (own_q p1)), .second, .unset, .unset] [(.int r_1)]) _
  by_cases h1 : own_in (own_q p0) (4640537203540230144 : UInt64)
  · skip
    rw [if_pos h1] at q1_0
    subst q1_0
    show own_Go p e below T1 (mkF m 22 #[.val (.int p0), .val (.int p1), .val (.double (own_q p0)), .second, .val (.double (own_q p1)), .second, .unset, .unset] [(.int (1 : Int32))]) _
    refine own_st (fun t_ k_ => XS.ifNo X1.here hx rfl (hb hby at_22) rfl (by decide) k_) ?_
    show own_Go p e below T1 (mkF m 25 #[.val (.int p0), .val (.int p1), .val (.double (own_q p0)), .second, .val (.double (own_q p1)), .second, .unset, .unset] []) _
    refine own_st (fun t_ k_ => XS.dload X1.here hx rfl (hb hby at_25) rfl k_) ?_
    show own_Go p e below T1 (mkF m 27 #[.val (.int p0), .val (.int p1), .val (.double (own_q p0)), .second, .val (.double (own_q p1)), .second, .unset, .unset] [(.double (own_q p1))]) _
    refine own_st (fun t_ k_ => X1.ldc2DoubleC hx hown (mvT hZ (hw _ (List.mem_of_getElem? (i := 6) rfl))) (g := (mkF m 27 #[.val (.int p0), .val (.int p1), .val (.double (own_q p0)), .second, .val (.double (own_q p1)), .second, .unset, .unset] [(.double (own_q p1))])) rfl (hb hby at_27) _ k_) ?_
    show own_Go p e below T1 (mkF m 30 #[.val (.int p0), .val (.int p1), .val (.double (own_q p0)), .second, .val (.double (own_q p1)), .second, .unset, .unset] [(.double (4636033603912859648 : UInt64)), (.double (own_q p1))]) _
    obtain ⟨_, _, ⟨T2, L2, k2, n2⟩, -, X2, ⟨Lc2, hQ2, l2, y2, z2⟩, st2⟩ := Jvm.LawKit.callS X1 hx (y := (⟨"com/example/envelope/envelope/model/Wgs84IsPositionPinLaw", "within", "(DD)Z"⟩ : MethodName)) hown (mvT hZ (hw _ (List.mem_of_getElem? (i := 2) rfl))) (mvT hZ (hw _ (List.mem_of_getElem? (i := 3) rfl))) (mvT hZ (hw _ (List.mem_of_getElem? (i := 4) rfl))) (mvT hZ (hw _ (List.mem_of_getElem? (i := 5) rfl))) (by decide) (backOf (W := 0) (rmWi90 l Z a0 hw [] ((own_q p1)) h0 n0 Z0 (own_q_nn p1)) hZ (hw _ (List.mem_of_getElem? (i := 5) rfl)) (hw _ (List.mem_of_getElem? (i := 4) rfl)) (by decide) (by decide)) (g := (mkF m 30 #[.val (.int p0), .val (.int p1), .val (.double (own_q p0)), .second, .val (.double (own_q p1)), .second, .unset, .unset] [(.double (4636033603912859648 : UInt64)), (.double (own_q p1))])) rfl (by rw [hml]; rfl) (argsL := [(.double (own_q p1)), (.double (4636033603912859648 : UInt64))]) (rest := []) (lenOf pd__DD_Z rfl) rfl (by show 2 * 0 + _ ≤ _; exact Nat.le_of_eq rfl) (hb hby at_30) (fun _ _ => ⟨rfl, eH1, (by decide : 0 + 0 ≤ _), (by decide : 0 + 0 ≤ _)⟩)
    dsimp only [Pt.U, Pt.locs, Pt.cells, Pt.slots] at X2 l2 y2 z2 st2 hQ2
    subst l2 y2 z2
    obtain ⟨r_2, rfl, Nq2, eH2, q2_0⟩ := hQ2
    have N2 := Fr.app N1 Nq2
    refine own_st st2 ?_
    show own_Go p e below T2 (mkF m 33 #[.val (.int p0), .val (.int p1), .val (.double (own_q p0)), .second, .val (.double (own_q p1)), .second, .unset, .unset] [(.int r_2)]) _
    by_cases h2 : own_in (own_q p1) (4636033603912859648 : UInt64)
    · skip
      rw [if_pos h2] at q2_0
      subst q2_0
      show own_Go p e below T2 (mkF m 33 #[.val (.int p0), .val (.int p1), .val (.double (own_q p0)), .second, .val (.double (own_q p1)), .second, .unset, .unset] [(.int (1 : Int32))]) _
      refine own_st (fun t_ k_ => XS.ifNo X2.here hx rfl (hb hby at_33) rfl (by decide) k_) ?_
      show own_Go p e below T2 (mkF m 36 #[.val (.int p0), .val (.int p1), .val (.double (own_q p0)), .second, .val (.double (own_q p1)), .second, .unset, .unset] []) _
      refine own_st (fun t_ k_ => XS.iconst X2.here hx rfl (hb hby at_36) k_) ?_
      show own_Go p e below T2 (mkF m 37 #[.val (.int p0), .val (.int p1), .val (.double (own_q p0)), .second, .val (.double (own_q p1)), .second, .unset, .unset] [(.int (1 : Int32))]) _
      refine own_st (fun t_ k_ => XS.goto X2.here hx rfl (pc0 := 37) (pc' := 41) rfl (hb hby at_37) (by decide) (by decide) k_) ?_
      show own_Go p e below T2 (mkF m 41 #[.val (.int p0), .val (.int p1), .val (.double (own_q p0)), .second, .val (.double (own_q p1)), .second, .unset, .unset] [(.int (1 : Int32))]) _
      refine own_st (fun t_ k_ => XS.istore X2.here hx rfl (hb hby at_41) rfl (l' := #[.val (.int p0), .val (.int p1), .val (.double (own_q p0)), .second, .val (.double (own_q p1)), .second, .val (.int (1 : Int32)), .unset]) rfl k_) ?_
      show own_Go p e below T2 (mkF m 43 #[.val (.int p0), .val (.int p1), .val (.double (own_q p0)), .second, .val (.double (own_q p1)), .second, .val (.int (1 : Int32)), .unset] []) _
      refine own_st (fun t_ k_ => XS.dloadN X2.here hx rfl (hb hby at_43) rfl k_) ?_
      show own_Go p e below T2 (mkF m 44 #[.val (.int p0), .val (.int p1), .val (.double (own_q p0)), .second, .val (.double (own_q p1)), .second, .val (.int (1 : Int32)), .unset] [(.double (own_q p0))]) _
      refine own_st (fun t_ k_ => XS.dload X2.here hx rfl (hb hby at_44) rfl k_) ?_
      show own_Go p e below T2 (mkF m 46 #[.val (.int p0), .val (.int p1), .val (.double (own_q p0)), .second, .val (.double (own_q p1)), .second, .val (.int (1 : Int32)), .unset] [(.double (own_q p1)), (.double (own_q p0))]) _
      obtain ⟨_, _, ⟨T3, L3, k3, n3⟩, -, X3, ⟨Lc3, hQ3, l3, y3, z3⟩, st3⟩ := Jvm.LawKit.callS X2 hx (y := (⟨"com/example/envelope/envelope/model/Wgs84", "isPosition", "(DD)Z"⟩ : MethodName)) hown (mvT hZ (hw _ (List.mem_of_getElem? (i := 7) rfl))) (mvT hZ (hw _ (List.mem_of_getElem? (i := 8) rfl))) (mvT hZ (hw _ (List.mem_of_getElem? (i := 9) rfl))) (mvT hZ (hw _ (List.mem_of_getElem? (i := 10) rfl))) (by decide) (backOf (W := 0) (rmIp l Z a0 hw [] ((own_q p0)) ((own_q p1)) h0 n0 Z0 (own_q_nn p0) (own_q_nn p1)) hZ (hw _ (List.mem_of_getElem? (i := 10) rfl)) (hw _ (List.mem_of_getElem? (i := 9) rfl)) (by decide) (by decide)) (g := (mkF m 46 #[.val (.int p0), .val (.int p1), .val (.double (own_q p0)), .second, .val (.double (own_q p1)), .second, .val (.int (1 : Int32)), .unset] [(.double (own_q p1)), (.double (own_q p0))])) rfl (by rw [hml]; rfl) (argsL := [(.double (own_q p0)), (.double (own_q p1))]) (rest := []) (lenOf pd__DD_Z rfl) rfl (by show 2 * 0 + _ ≤ _; exact Nat.le_of_eq rfl) (hb hby at_46) (fun _ _ => ⟨rfl, eH2, (by decide : 0 + 0 ≤ _), (by decide : 0 + 0 ≤ _)⟩)
      dsimp only [Pt.U, Pt.locs, Pt.cells, Pt.slots] at X3 l3 y3 z3 st3 hQ3
      subst l3 y3 z3
      obtain ⟨r_3, rfl, Nq3, eH3, q3_0⟩ := hQ3
      have N3 := Fr.app N2 Nq3
      refine own_st st3 ?_
      show own_Go p e below T3 (mkF m 49 #[.val (.int p0), .val (.int p1), .val (.double (own_q p0)), .second, .val (.double (own_q p1)), .second, .val (.int (1 : Int32)), .unset] [(.int r_3)]) _
      rw [if_pos ⟨h1, h2⟩] at q3_0
      subst q3_0
      show own_Go p e below T3 (mkF m 49 #[.val (.int p0), .val (.int p1), .val (.double (own_q p0)), .second, .val (.double (own_q p1)), .second, .val (.int (1 : Int32)), .unset] [(.int (1 : Int32))]) _
      refine own_st (fun t_ k_ => XS.istore X3.here hx rfl (hb hby at_49) rfl (l' := #[.val (.int p0), .val (.int p1), .val (.double (own_q p0)), .second, .val (.double (own_q p1)), .second, .val (.int (1 : Int32)), .val (.int (1 : Int32))]) rfl k_) ?_
      show own_Go p e below T3 (mkF m 51 #[.val (.int p0), .val (.int p1), .val (.double (own_q p0)), .second, .val (.double (own_q p1)), .second, .val (.int (1 : Int32)), .val (.int (1 : Int32))] []) _
      refine own_st (fun t_ k_ => XS.iload X3.here hx rfl (hb hby at_51) rfl k_) ?_
      show own_Go p e below T3 (mkF m 53 #[.val (.int p0), .val (.int p1), .val (.double (own_q p0)), .second, .val (.double (own_q p1)), .second, .val (.int (1 : Int32)), .val (.int (1 : Int32))] [(.int (1 : Int32))]) _
      refine own_st (fun t_ k_ => XS.iload X3.here hx rfl (hb hby at_53) rfl k_) ?_
      show own_Go p e below T3 (mkF m 55 #[.val (.int p0), .val (.int p1), .val (.double (own_q p0)), .second, .val (.double (own_q p1)), .second, .val (.int (1 : Int32)), .val (.int (1 : Int32))] [(.int (1 : Int32)), (.int (1 : Int32))]) _
      refine own_st (fun t_ k_ => XS.icmpNo X3.here hx rfl (hb hby at_55) rfl (by decide) k_) ?_
      show own_Go p e below T3 (mkF m 58 #[.val (.int p0), .val (.int p1), .val (.double (own_q p0)), .second, .val (.double (own_q p1)), .second, .val (.int (1 : Int32)), .val (.int (1 : Int32))] []) _
      refine own_st (fun t_ k_ => XS.iconst X3.here hx rfl (hb hby at_58) k_) ?_
      show own_Go p e below T3 (mkF m 59 #[.val (.int p0), .val (.int p1), .val (.double (own_q p0)), .second, .val (.double (own_q p1)), .second, .val (.int (1 : Int32)), .val (.int (1 : Int32))] [(.int (1 : Int32))]) _
      refine own_st (fun t_ k_ => XS.goto X3.here hx rfl (pc0 := 59) (pc' := 63) rfl (hb hby at_59) (by decide) (by decide) k_) ?_
      show own_Go p e below T3 (mkF m 63 #[.val (.int p0), .val (.int p1), .val (.double (own_q p0)), .second, .val (.double (own_q p1)), .second, .val (.int (1 : Int32)), .val (.int (1 : Int32))] [(.int (1 : Int32))]) _
      obtain ⟨fs, hr, hrun, hended, hW, hsame⟩ := X3.leave (v := some (.int (1 : Int32))) (fun h => by rw [Bd.returns] at h; cases h)
      refine own_fin (retN X3 hx (t := .boolean) Bd.returns (by simp) (hb hby at_63) hr) ⟨hrun, hended, _, _, rfl, ?_, ⟨_, rfl⟩, hW, hsame.mono (by decide) (by decide)⟩
      show Q_rmLaw Z p0 p1 h0 n0 _ T3.heap _
      rw [eH3]
      exact ⟨rfl, N3, rfl⟩
    · skip
      rw [if_neg h2] at q2_0
      subst q2_0
      show own_Go p e below T2 (mkF m 33 #[.val (.int p0), .val (.int p1), .val (.double (own_q p0)), .second, .val (.double (own_q p1)), .second, .unset, .unset] [(.int (0 : Int32))]) _
      refine own_st (fun t_ k_ => XS.ifYes X2.here hx rfl (pc0 := 33) (pc' := 40) rfl (hb hby at_33) rfl (by decide) (by decide) (by decide) k_) ?_
      show own_Go p e below T2 (mkF m 40 #[.val (.int p0), .val (.int p1), .val (.double (own_q p0)), .second, .val (.double (own_q p1)), .second, .unset, .unset] []) _
      refine own_st (fun t_ k_ => XS.iconst X2.here hx rfl (hb hby at_40) k_) ?_
      show own_Go p e below T2 (mkF m 41 #[.val (.int p0), .val (.int p1), .val (.double (own_q p0)), .second, .val (.double (own_q p1)), .second, .unset, .unset] [(.int (0 : Int32))]) _
      refine own_st (fun t_ k_ => XS.istore X2.here hx rfl (hb hby at_41) rfl (l' := #[.val (.int p0), .val (.int p1), .val (.double (own_q p0)), .second, .val (.double (own_q p1)), .second, .val (.int (0 : Int32)), .unset]) rfl k_) ?_
      show own_Go p e below T2 (mkF m 43 #[.val (.int p0), .val (.int p1), .val (.double (own_q p0)), .second, .val (.double (own_q p1)), .second, .val (.int (0 : Int32)), .unset] []) _
      refine own_st (fun t_ k_ => XS.dloadN X2.here hx rfl (hb hby at_43) rfl k_) ?_
      show own_Go p e below T2 (mkF m 44 #[.val (.int p0), .val (.int p1), .val (.double (own_q p0)), .second, .val (.double (own_q p1)), .second, .val (.int (0 : Int32)), .unset] [(.double (own_q p0))]) _
      refine own_st (fun t_ k_ => XS.dload X2.here hx rfl (hb hby at_44) rfl k_) ?_
      show own_Go p e below T2 (mkF m 46 #[.val (.int p0), .val (.int p1), .val (.double (own_q p0)), .second, .val (.double (own_q p1)), .second, .val (.int (0 : Int32)), .unset] [(.double (own_q p1)), (.double (own_q p0))]) _
      obtain ⟨_, _, ⟨T4, L4, k4, n4⟩, -, X4, ⟨Lc4, hQ4, l4, y4, z4⟩, st4⟩ := Jvm.LawKit.callS X2 hx (y := (⟨"com/example/envelope/envelope/model/Wgs84", "isPosition", "(DD)Z"⟩ : MethodName)) hown (mvT hZ (hw _ (List.mem_of_getElem? (i := 7) rfl))) (mvT hZ (hw _ (List.mem_of_getElem? (i := 8) rfl))) (mvT hZ (hw _ (List.mem_of_getElem? (i := 9) rfl))) (mvT hZ (hw _ (List.mem_of_getElem? (i := 10) rfl))) (by decide) (backOf (W := 0) (rmIp l Z a0 hw [] ((own_q p0)) ((own_q p1)) h0 n0 Z0 (own_q_nn p0) (own_q_nn p1)) hZ (hw _ (List.mem_of_getElem? (i := 10) rfl)) (hw _ (List.mem_of_getElem? (i := 9) rfl)) (by decide) (by decide)) (g := (mkF m 46 #[.val (.int p0), .val (.int p1), .val (.double (own_q p0)), .second, .val (.double (own_q p1)), .second, .val (.int (0 : Int32)), .unset] [(.double (own_q p1)), (.double (own_q p0))])) rfl (by rw [hml]; rfl) (argsL := [(.double (own_q p0)), (.double (own_q p1))]) (rest := []) (lenOf pd__DD_Z rfl) rfl (by show 2 * 0 + _ ≤ _; exact Nat.le_of_eq rfl) (hb hby at_46) (fun _ _ => ⟨rfl, eH2, (by decide : 0 + 0 ≤ _), (by decide : 0 + 0 ≤ _)⟩)
      dsimp only [Pt.U, Pt.locs, Pt.cells, Pt.slots] at X4 l4 y4 z4 st4 hQ4
      subst l4 y4 z4
      obtain ⟨r_4, rfl, Nq4, eH4, q4_0⟩ := hQ4
      have N4 := Fr.app N2 Nq4
      refine own_st st4 ?_
      show own_Go p e below T4 (mkF m 49 #[.val (.int p0), .val (.int p1), .val (.double (own_q p0)), .second, .val (.double (own_q p1)), .second, .val (.int (0 : Int32)), .unset] [(.int r_4)]) _
      rw [if_neg (fun h => h2 h.2)] at q4_0
      subst q4_0
      show own_Go p e below T4 (mkF m 49 #[.val (.int p0), .val (.int p1), .val (.double (own_q p0)), .second, .val (.double (own_q p1)), .second, .val (.int (0 : Int32)), .unset] [(.int (0 : Int32))]) _
      refine own_st (fun t_ k_ => XS.istore X4.here hx rfl (hb hby at_49) rfl (l' := #[.val (.int p0), .val (.int p1), .val (.double (own_q p0)), .second, .val (.double (own_q p1)), .second, .val (.int (0 : Int32)), .val (.int (0 : Int32))]) rfl k_) ?_
      show own_Go p e below T4 (mkF m 51 #[.val (.int p0), .val (.int p1), .val (.double (own_q p0)), .second, .val (.double (own_q p1)), .second, .val (.int (0 : Int32)), .val (.int (0 : Int32))] []) _
      refine own_st (fun t_ k_ => XS.iload X4.here hx rfl (hb hby at_51) rfl k_) ?_
      show own_Go p e below T4 (mkF m 53 #[.val (.int p0), .val (.int p1), .val (.double (own_q p0)), .second, .val (.double (own_q p1)), .second, .val (.int (0 : Int32)), .val (.int (0 : Int32))] [(.int (0 : Int32))]) _
      refine own_st (fun t_ k_ => XS.iload X4.here hx rfl (hb hby at_53) rfl k_) ?_
      show own_Go p e below T4 (mkF m 55 #[.val (.int p0), .val (.int p1), .val (.double (own_q p0)), .second, .val (.double (own_q p1)), .second, .val (.int (0 : Int32)), .val (.int (0 : Int32))] [(.int (0 : Int32)), (.int (0 : Int32))]) _
      refine own_st (fun t_ k_ => XS.icmpNo X4.here hx rfl (hb hby at_55) rfl (by decide) k_) ?_
      show own_Go p e below T4 (mkF m 58 #[.val (.int p0), .val (.int p1), .val (.double (own_q p0)), .second, .val (.double (own_q p1)), .second, .val (.int (0 : Int32)), .val (.int (0 : Int32))] []) _
      refine own_st (fun t_ k_ => XS.iconst X4.here hx rfl (hb hby at_58) k_) ?_
      show own_Go p e below T4 (mkF m 59 #[.val (.int p0), .val (.int p1), .val (.double (own_q p0)), .second, .val (.double (own_q p1)), .second, .val (.int (0 : Int32)), .val (.int (0 : Int32))] [(.int (1 : Int32))]) _
      refine own_st (fun t_ k_ => XS.goto X4.here hx rfl (pc0 := 59) (pc' := 63) rfl (hb hby at_59) (by decide) (by decide) k_) ?_
      show own_Go p e below T4 (mkF m 63 #[.val (.int p0), .val (.int p1), .val (.double (own_q p0)), .second, .val (.double (own_q p1)), .second, .val (.int (0 : Int32)), .val (.int (0 : Int32))] [(.int (1 : Int32))]) _
      obtain ⟨fs, hr, hrun, hended, hW, hsame⟩ := X4.leave (v := some (.int (1 : Int32))) (fun h => by rw [Bd.returns] at h; cases h)
      refine own_fin (retN X4 hx (t := .boolean) Bd.returns (by simp) (hb hby at_63) hr) ⟨hrun, hended, _, _, rfl, ?_, ⟨_, rfl⟩, hW, hsame.mono (by decide) (by decide)⟩
      show Q_rmLaw Z p0 p1 h0 n0 _ T4.heap _
      rw [eH4]
      exact ⟨rfl, N4, rfl⟩
  · skip
    rw [if_neg h1] at q1_0
    subst q1_0
    show own_Go p e below T1 (mkF m 22 #[.val (.int p0), .val (.int p1), .val (.double (own_q p0)), .second, .val (.double (own_q p1)), .second, .unset, .unset] [(.int (0 : Int32))]) _
    refine own_st (fun t_ k_ => XS.ifYes X1.here hx rfl (pc0 := 22) (pc' := 40) rfl (hb hby at_22) rfl (by decide) (by decide) (by decide) k_) ?_
    show own_Go p e below T1 (mkF m 40 #[.val (.int p0), .val (.int p1), .val (.double (own_q p0)), .second, .val (.double (own_q p1)), .second, .unset, .unset] []) _
    refine own_st (fun t_ k_ => XS.iconst X1.here hx rfl (hb hby at_40) k_) ?_
    show own_Go p e below T1 (mkF m 41 #[.val (.int p0), .val (.int p1), .val (.double (own_q p0)), .second, .val (.double (own_q p1)), .second, .unset, .unset] [(.int (0 : Int32))]) _
    refine own_st (fun t_ k_ => XS.istore X1.here hx rfl (hb hby at_41) rfl (l' := #[.val (.int p0), .val (.int p1), .val (.double (own_q p0)), .second, .val (.double (own_q p1)), .second, .val (.int (0 : Int32)), .unset]) rfl k_) ?_
    show own_Go p e below T1 (mkF m 43 #[.val (.int p0), .val (.int p1), .val (.double (own_q p0)), .second, .val (.double (own_q p1)), .second, .val (.int (0 : Int32)), .unset] []) _
    refine own_st (fun t_ k_ => XS.dloadN X1.here hx rfl (hb hby at_43) rfl k_) ?_
    show own_Go p e below T1 (mkF m 44 #[.val (.int p0), .val (.int p1), .val (.double (own_q p0)), .second, .val (.double (own_q p1)), .second, .val (.int (0 : Int32)), .unset] [(.double (own_q p0))]) _
    refine own_st (fun t_ k_ => XS.dload X1.here hx rfl (hb hby at_44) rfl k_) ?_
    show own_Go p e below T1 (mkF m 46 #[.val (.int p0), .val (.int p1), .val (.double (own_q p0)), .second, .val (.double (own_q p1)), .second, .val (.int (0 : Int32)), .unset] [(.double (own_q p1)), (.double (own_q p0))]) _
    obtain ⟨_, _, ⟨T5, L5, k5, n5⟩, -, X5, ⟨Lc5, hQ5, l5, y5, z5⟩, st5⟩ := Jvm.LawKit.callS X1 hx (y := (⟨"com/example/envelope/envelope/model/Wgs84", "isPosition", "(DD)Z"⟩ : MethodName)) hown (mvT hZ (hw _ (List.mem_of_getElem? (i := 7) rfl))) (mvT hZ (hw _ (List.mem_of_getElem? (i := 8) rfl))) (mvT hZ (hw _ (List.mem_of_getElem? (i := 9) rfl))) (mvT hZ (hw _ (List.mem_of_getElem? (i := 10) rfl))) (by decide) (backOf (W := 0) (rmIp l Z a0 hw [] ((own_q p0)) ((own_q p1)) h0 n0 Z0 (own_q_nn p0) (own_q_nn p1)) hZ (hw _ (List.mem_of_getElem? (i := 10) rfl)) (hw _ (List.mem_of_getElem? (i := 9) rfl)) (by decide) (by decide)) (g := (mkF m 46 #[.val (.int p0), .val (.int p1), .val (.double (own_q p0)), .second, .val (.double (own_q p1)), .second, .val (.int (0 : Int32)), .unset] [(.double (own_q p1)), (.double (own_q p0))])) rfl (by rw [hml]; rfl) (argsL := [(.double (own_q p0)), (.double (own_q p1))]) (rest := []) (lenOf pd__DD_Z rfl) rfl (by show 2 * 0 + _ ≤ _; exact Nat.le_of_eq rfl) (hb hby at_46) (fun _ _ => ⟨rfl, eH1, (by decide : 0 + 0 ≤ _), (by decide : 0 + 0 ≤ _)⟩)
    dsimp only [Pt.U, Pt.locs, Pt.cells, Pt.slots] at X5 l5 y5 z5 st5 hQ5
    subst l5 y5 z5
    obtain ⟨r_5, rfl, Nq5, eH5, q5_0⟩ := hQ5
    have N5 := Fr.app N1 Nq5
    refine own_st st5 ?_
    show own_Go p e below T5 (mkF m 49 #[.val (.int p0), .val (.int p1), .val (.double (own_q p0)), .second, .val (.double (own_q p1)), .second, .val (.int (0 : Int32)), .unset] [(.int r_5)]) _
    rw [if_neg (fun h => h1 h.1)] at q5_0
    subst q5_0
    show own_Go p e below T5 (mkF m 49 #[.val (.int p0), .val (.int p1), .val (.double (own_q p0)), .second, .val (.double (own_q p1)), .second, .val (.int (0 : Int32)), .unset] [(.int (0 : Int32))]) _
    refine own_st (fun t_ k_ => XS.istore X5.here hx rfl (hb hby at_49) rfl (l' := #[.val (.int p0), .val (.int p1), .val (.double (own_q p0)), .second, .val (.double (own_q p1)), .second, .val (.int (0 : Int32)), .val (.int (0 : Int32))]) rfl k_) ?_
    show own_Go p e below T5 (mkF m 51 #[.val (.int p0), .val (.int p1), .val (.double (own_q p0)), .second, .val (.double (own_q p1)), .second, .val (.int (0 : Int32)), .val (.int (0 : Int32))] []) _
    refine own_st (fun t_ k_ => XS.iload X5.here hx rfl (hb hby at_51) rfl k_) ?_
    show own_Go p e below T5 (mkF m 53 #[.val (.int p0), .val (.int p1), .val (.double (own_q p0)), .second, .val (.double (own_q p1)), .second, .val (.int (0 : Int32)), .val (.int (0 : Int32))] [(.int (0 : Int32))]) _
    refine own_st (fun t_ k_ => XS.iload X5.here hx rfl (hb hby at_53) rfl k_) ?_
    show own_Go p e below T5 (mkF m 55 #[.val (.int p0), .val (.int p1), .val (.double (own_q p0)), .second, .val (.double (own_q p1)), .second, .val (.int (0 : Int32)), .val (.int (0 : Int32))] [(.int (0 : Int32)), (.int (0 : Int32))]) _
    refine own_st (fun t_ k_ => XS.icmpNo X5.here hx rfl (hb hby at_55) rfl (by decide) k_) ?_
    show own_Go p e below T5 (mkF m 58 #[.val (.int p0), .val (.int p1), .val (.double (own_q p0)), .second, .val (.double (own_q p1)), .second, .val (.int (0 : Int32)), .val (.int (0 : Int32))] []) _
    refine own_st (fun t_ k_ => XS.iconst X5.here hx rfl (hb hby at_58) k_) ?_
    show own_Go p e below T5 (mkF m 59 #[.val (.int p0), .val (.int p1), .val (.double (own_q p0)), .second, .val (.double (own_q p1)), .second, .val (.int (0 : Int32)), .val (.int (0 : Int32))] [(.int (1 : Int32))]) _
    refine own_st (fun t_ k_ => XS.goto X5.here hx rfl (pc0 := 59) (pc' := 63) rfl (hb hby at_59) (by decide) (by decide) k_) ?_
    show own_Go p e below T5 (mkF m 63 #[.val (.int p0), .val (.int p1), .val (.double (own_q p0)), .second, .val (.double (own_q p1)), .second, .val (.int (0 : Int32)), .val (.int (0 : Int32))] [(.int (1 : Int32))]) _
    obtain ⟨fs, hr, hrun, hended, hW, hsame⟩ := X5.leave (v := some (.int (1 : Int32))) (fun h => by rw [Bd.returns] at h; cases h)
    refine own_fin (retN X5 hx (t := .boolean) Bd.returns (by simp) (hb hby at_63) hr) ⟨hrun, hended, _, _, rfl, ?_, ⟨_, rfl⟩, hW, hsame.mono (by decide) (by decide)⟩
    show Q_rmLaw Z p0 p1 h0 n0 _ T5.heap _
    rw [eH5]
    exact ⟨rfl, N5, rfl⟩
set_option maxRecDepth 65536 in
set_option maxHeartbeats 40000000 in
theorem comes_1 {Post : Tables → Env → Array Value → State → Outcome → State → Prop} (hpost : ∀ tb e args s v u, (limb_1_1.after args s (.returned v) u = true ∧ limb_1_2.after args s (.returned v) u = true ∧ True) → FrameEnd s (.returned v) u (Jvm.fieldLocs frame_1_writes args s ++ Jvm.arrayLocs frame_1_arrays args s ++ Jvm.staticLocs frame_1_statics s) 0 0 → Post tb e args s (.returned v) u) :
    ArmFor flags0 classFile x code maxLocals ret World_1 tables_1 room_1 Calls_1 rest_1 Pre_1 Post := by
  intro l hfl _ _ p e ha hc hk s m args below hf hA hF happ hP
  obtain ⟨hcalls, hrest, hpre⟩ := hP
  obtain ⟨-, -, -, hnamed, -, -, -, hat⟩ := (Spec.applies_iff hf).mp happ
  obtain ⟨hg, hn⟩ := and_e (Cond.before_iff.mp (show (Jvm.Cond.and given_1 narrow_1).before args s = true from hpre))
  obtain ⟨hc0, hg0⟩ := and_e hg
  obtain ⟨ga0, hg1⟩ := and_e hg0
  have ga1 := hg1
  obtain ⟨w0, w1, rfl⟩ : ∃ w0 w1 : Value, args = #[w0, w1] := by
    have hs : args.size = 2 := by simpa [Cond.value, given_1] using hc0
    obtain ⟨L⟩ := args
    match L, hs with
    | [w0, w1], _ => exact ⟨w0, w1, rfl⟩
  have hw := fun d (hd : d ∈ tables_1) => atoms_spec (ws := Jvm.Cond.code x code maxLocals ret :: tables_1) hat d (List.mem_cons_of_mem _ hd)
  have hfit : Fit s := fun {y c} hc i hi => by
    obtain ⟨ha, rfl⟩ := Array.getElem?_eq_some_iff.mp hc
    have q := List.all_eq_true.mp ((Array.all_eq_true_iff_forall_mem.mp hF) _ (Array.getElem_mem ha)) i (List.mem_range.mpr hi)
    simpa [Array.getElem?_eq_getElem hi] using q
  obtain ⟨i0, ei0⟩ := is_v ga0
  obtain rfl : w0 = (.int i0) := Option.some.inj ei0
  obtain ⟨i1, ei1⟩ := is_v ga1
  obtain rfl : w1 = (.int i1) := Option.some.inj ei1
  obtain ⟨n, o, h1, h2, h3, _, L, rfl, ⟨rfl, N, -⟩, hq⟩ := rmLaw l s _ hw tables_1 i0 i1 s.heap s.heap.size (Nat.le_refl _)  p e ha hc hk s m _ below hf ((Spec.applies_iff_loose hf).mp happ).1 ⟨rfl, State.Warmed39.refl s, rfl⟩ trivial
  refine ⟨n, _, h1, h2, h3, hpost _ _ _ _ _ _ ⟨Cond.after_iff.mpr rfl, Cond.after_iff.mpr (eq_i res_at (Term.int_eval (1)) rfl), trivial⟩ ⟨hq.1, hq.2.1, (hq.2.2.sift fun y hy => Or.inr (N y hy)).mono (by decide) (by decide)⟩⟩
theorem main_1_1 : Claimed_1_1 := comes_1 fun _ _ _ _ _ _ h hF => ⟨h.1, hF⟩
theorem main_1_2 : Claimed_1_2 := comes_1 fun _ _ _ _ _ _ h hF => ⟨h.2.1, hF⟩
end Jvm.Pilot.@@N@@
namespace Jvm.Pilot.@@N@@
open Jvm Jvm.ClassFile Sem Op Lib Jvm.Free Jvm.Stand Jvm.Pilot.@@N@@.Jvm.D
/-! MADE BY PROGRAM (witnessworld.py) out of the Statement's table words and the real class files: 10 classes; the members and pool entries that the words name. The judged class is class 1, her method 2. -/
namespace start1
open Jvm.ClassFile
def u (s : String) : CpInfo := .utf8 (stringToUtf16 s)
/-- a pool by its gaps: so many unusable entries, then the entry; so many at the end -/
def gap : Nat → List CpInfo → List CpInfo
  | 0, r => r
  | n + 1, r => .unusable :: gap n r
def poolList (es : List (Nat × CpInfo)) (last : Nat) : List CpInfo := es.foldr (fun e r => gap e.1 (e.2 :: r)) (gap last [])
def pool (es : List (Nat × CpInfo)) (last : Nat) : Array CpInfo := ⟨poolList es last⟩
def fileOf (pool : Array CpInfo) (this : Nat) (attrs : Array Attribute := #[]) (ms : Array MethodInfo := #[]) (fl : Nat := 33) (sup : Nat := 0) (ifs : Array Nat := #[]) (fds : Array FieldInfo := #[]) : ClassFile where
  minorVersion := 0
  majorVersion := 65
  constantPool := pool
  accessFlags := fl
  thisClass := this
  superClass := sup
  interfaces := ifs
  fields := fds
  methods := ms
  attributes := attrs
def plain (name : String) (sup : Option ClassId) : Class where
  name := name
  kind := .ordinary
  loader := none
  accessFlags := 33
  super := sup
  interfaces := #[]
  cf := none
  fields := #[]
  methods := #[]
  instanceTypes := #[]
  staticTypes := #[]
  resolved := #[]
  callSites := []
  init := .initialized
  statics := none
  mirror := none

def pool0 : Array CpInfo := pool [(5, u "<init>"), (0, u "()V"), (1, .class_ 10), (1, u "java/lang/Object")] 113

def k0m0 : Method := { name := "<init>", desc := "()V", sig := { parameters := [], returnType := none }, accessFlags := 1, code := none }
/-- java/lang/Object -/
def k0 : Class := { plain "java/lang/Object" none with
  accessFlags := 33
  interfaces := #[]
  cf := some (fileOf pool0 8 #[] #[{ accessFlags := 1, nameIndex := 5, descriptorIndex := 6, attributes := #[] }] 33 0 #[] #[])
  fields := #[]
  methods := #[k0m0]
  instanceTypes := #[]
  staticTypes := #[]
  resolved := Array.replicate 124 none
  statics := none }

def pool1 : Array CpInfo := pool [(2, .class_ 4), (1, u "java/lang/Object"), (0, u "<init>"), (0, u "()V"), (0, .double 4598175219545276416), (1, .double 4640537203540230144), (1, .methodref 12 13), (0, .class_ 14), (0, .nameAndType 15 16), (0, u "com/example/envelope/envelope/model/Wgs84IsPositionPinLaw"), (0, u "within"), (0, u "(DD)Z"), (0, .double 4636033603912859648), (1, .methodref 20 21), (0, .class_ 22), (0, .nameAndType 23 16), (0, u "com/example/envelope/envelope/model/Wgs84"), (0, u "isPosition"), (3, u "law"), (0, u "(II)Z")] 2

def k1m0 : Method := { name := "<init>", desc := "()V", sig := { parameters := [], returnType := none }, accessFlags := 2, code := none }
def k1c1 : Code := { maxStack := 6, maxLocals := 6, code := method_2_code, exceptionTable := #[], attributes := #[] }
def k1m1 : Method := { name := "within", desc := "(DD)Z", sig := { parameters := [.double, .double], returnType := some .boolean }, accessFlags := 10, code := some k1c1 }
def k1c2 : Code := { maxStack := 4, maxLocals := 8, code := code, exceptionTable := #[], attributes := #[] }
def k1m2 : Method := { name := "law", desc := "(II)Z", sig := { parameters := [.int, .int], returnType := some .boolean }, accessFlags := 9, code := some k1c2 }
/-- com/example/envelope/envelope/model/Wgs84IsPositionPinLaw -/
def k1 : Class := { plain "com/example/envelope/envelope/model/Wgs84IsPositionPinLaw" (some 0) with
  accessFlags := 49
  interfaces := #[]
  cf := some (fileOf pool1 12 #[] #[{ accessFlags := 2, nameIndex := 5, descriptorIndex := 6, attributes := #[] }, { accessFlags := 10, nameIndex := 15, descriptorIndex := 16, attributes := #[] }, { accessFlags := 9, nameIndex := 27, descriptorIndex := 28, attributes := #[] }] 49 2 #[] #[])
  fields := #[]
  methods := #[k1m0, k1m1, k1m2]
  instanceTypes := #[]
  staticTypes := #[]
  resolved := Array.replicate 31 none
  statics := none }

def pool2 : Array CpInfo := pool [(2, .class_ 4), (1, u "java/lang/Object"), (0, u "<init>"), (0, u "()V"), (0, .methodref 8 9), (0, .class_ 10), (0, .nameAndType 11 12), (0, u "java/lang/Math"), (0, u "abs"), (0, u "(D)D"), (0, .double 4640537203540230144), (1, .double 4636033603912859648), (1, .class_ 18), (0, u "com/example/envelope/envelope/model/Wgs84"), (2, u "isPosition"), (0, u "(DD)Z")] 3

def k2m0 : Method := { name := "<init>", desc := "()V", sig := { parameters := [], returnType := none }, accessFlags := 2, code := none }
def k2c1 : Code := { maxStack := 4, maxLocals := 4, code := prog_31_method_2_code, exceptionTable := #[], attributes := #[] }
def k2m1 : Method := { name := "isPosition", desc := "(DD)Z", sig := { parameters := [.double, .double], returnType := some .boolean }, accessFlags := 9, code := some k2c1 }
/-- com/example/envelope/envelope/model/Wgs84 -/
def k2 : Class := { plain "com/example/envelope/envelope/model/Wgs84" (some 0) with
  accessFlags := 49
  interfaces := #[]
  cf := some (fileOf pool2 17 #[] #[{ accessFlags := 2, nameIndex := 5, descriptorIndex := 6, attributes := #[] }, { accessFlags := 9, nameIndex := 21, descriptorIndex := 22, attributes := #[] }] 49 2 #[] #[])
  fields := #[]
  methods := #[k2m0, k2m1]
  instanceTypes := #[]
  staticTypes := #[]
  resolved := Array.replicate 26 none
  statics := none }

def pool3 : Array CpInfo := pool [(1, .class_ 2), (0, u "java/lang/Math"), (1, .class_ 6), (1, u "java/lang/Object"), (0, u "<init>"), (0, u "()V"), (5, u "(D)D"), (83, .class_ 100), (1, u "java/lang/Math$RandomNumberGeneratorHolder"), (23, u "abs"), (47, u "negativeZeroFloatBits"), (0, u "J"), (2, u "negativeZeroDoubleBits"), (68, u "$assertionsDisabled"), (0, u "Z"), (91, u "twoToTheDoubleScaleDown"), (0, u "D"), (4, u "twoToTheDoubleScaleUp"), (9, u "E"), (3, u "PI"), (2, u "TAU"), (2, u "DEGREES_TO_RADIANS"), (0, u "RADIANS_TO_DEGREES")] 94

def k3m0 : Method := { name := "<init>", desc := "()V", sig := { parameters := [], returnType := none }, accessFlags := 2, code := none }
def k3c1 : Code := { maxStack := 4, maxLocals := 2, code := jdk_29_method_64_code, exceptionTable := #[], attributes := #[] }
def k3m1 : Method := { name := "abs", desc := "(D)D", sig := { parameters := [.double], returnType := some .double }, accessFlags := 9, code := some k3c1 }
/-- java/lang/Math -/
def k3 : Class := { plain "java/lang/Math" (some 0) with
  accessFlags := 49
  interfaces := #[]
  cf := some (fileOf pool3 1 #[.nestMembers #[98]] #[{ accessFlags := 2, nameIndex := 7, descriptorIndex := 8, attributes := #[] }, { accessFlags := 9, nameIndex := 124, descriptorIndex := 14, attributes := #[] }] 49 4 #[] #[{ accessFlags := 25, nameIndex := 354, descriptorIndex := 339, attributes := #[] }, { accessFlags := 25, nameIndex := 358, descriptorIndex := 339, attributes := #[] }, { accessFlags := 25, nameIndex := 361, descriptorIndex := 339, attributes := #[] }, { accessFlags := 26, nameIndex := 364, descriptorIndex := 339, attributes := #[] }, { accessFlags := 26, nameIndex := 365, descriptorIndex := 339, attributes := #[] }, { accessFlags := 26, nameIndex := 172, descriptorIndex := 173, attributes := #[] }, { accessFlags := 26, nameIndex := 176, descriptorIndex := 173, attributes := #[] }, { accessFlags := 8, nameIndex := 344, descriptorIndex := 339, attributes := #[] }, { accessFlags := 8, nameIndex := 338, descriptorIndex := 339, attributes := #[] }, { accessFlags := 4120, nameIndex := 245, descriptorIndex := 246, attributes := #[] }])
  fields := #[{ name := "E", type := .double, accessFlags := 25, slot := 0, constantValue := 0 }, { name := "PI", type := .double, accessFlags := 25, slot := 1, constantValue := 0 }, { name := "TAU", type := .double, accessFlags := 25, slot := 2, constantValue := 0 }, { name := "DEGREES_TO_RADIANS", type := .double, accessFlags := 26, slot := 3, constantValue := 0 }, { name := "RADIANS_TO_DEGREES", type := .double, accessFlags := 26, slot := 4, constantValue := 0 }, { name := "negativeZeroFloatBits", type := .long, accessFlags := 26, slot := 5, constantValue := 0 }, { name := "negativeZeroDoubleBits", type := .long, accessFlags := 26, slot := 6, constantValue := 0 }, { name := "twoToTheDoubleScaleUp", type := .double, accessFlags := 8, slot := 7, constantValue := 0 }, { name := "twoToTheDoubleScaleDown", type := .double, accessFlags := 8, slot := 8, constantValue := 0 }, { name := "$assertionsDisabled", type := .boolean, accessFlags := 4120, slot := 9, constantValue := 0 }]
  methods := #[k3m0, k3m1]
  instanceTypes := #[]
  staticTypes := #[.double, .double, .double, .double, .double, .long, .long, .double, .double, .boolean]
  resolved := Array.replicate 460 none
  statics := none }

def pool4 : Array CpInfo := pool [(1, u "java/lang/Cloneable"), (0, .class_ 1), (0, u "java/lang/Object"), (0, .class_ 3)] 3

/-- java/lang/Cloneable -/
def k4 : Class := { plain "java/lang/Cloneable" (some 0) with
  accessFlags := 1537
  interfaces := #[]
  cf := some (fileOf pool4 2 #[] #[] 1537 4 #[] #[])
  fields := #[]
  methods := #[]
  instanceTypes := #[]
  staticTypes := #[]
  resolved := Array.replicate 8 none
  statics := none }

def pool5 : Array CpInfo := pool [(1, u "java/io/Serializable"), (0, .class_ 1), (0, u "java/lang/Object"), (0, .class_ 3)] 3

/-- java/io/Serializable -/
def k5 : Class := { plain "java/io/Serializable" (some 0) with
  accessFlags := 1537
  interfaces := #[]
  cf := some (fileOf pool5 2 #[] #[] 1537 4 #[] #[])
  fields := #[]
  methods := #[]
  instanceTypes := #[]
  staticTypes := #[]
  resolved := Array.replicate 8 none
  statics := none }

/-- the primitive byte -/
def k6 : Class := { plain "byte" none with kind := .primitive 'B', accessFlags := 0x411 }
/-- [B -/
def k7 : Class := { plain "[B" (some 0) with kind := .array 6 .byte, interfaces := #[4, 5], accessFlags := 1041 }

/-- the primitive int -/
def k8 : Class := { plain "int" none with kind := .primitive 'I', accessFlags := 0x411 }
/-- [I -/
def k9 : Class := { plain "[I" (some 0) with kind := .array 8 .int, interfaces := #[4, 5], accessFlags := 1041 }

def heap : Heap := #[]
def classes : Array Class := #[k0, k1, k2, k3, k4, k5, k6, k7, k8, k9]
def interned : List (Array UInt16 × Addr) := []
def slotsUsed : Nat := 0
def theMethod : MethodId := ⟨1, 2⟩
def args0 : Array Value := #[.int 5, .int 300]
def aboutOver (below : List Frame) : State where
  vm := { classes := classes, interned := interned.toArray }
  heap := heap
  slotsUsed := slotsUsed
  threads := #[{ frames := .invoking theMethod args0 :: below }]
def below0 : List Frame := [.native { method := ⟨0, 0⟩, args := #[] }]
def about1 : State := aboutOver below0
def p0 : Program := .bare "" "" ""
def e0 : Env := launch0.env 0 0 0
theorem w_frames : about1.frames = Frame.invoking theMethod args0 :: below0 := rfl
set_option maxRecDepth 65536 in
theorem w_args : argsFit about1.vm theMethod args0 = true := by decide +kernel
set_option maxRecDepth 65536 in
theorem w_heap : heapFits about1 = true := by decide +kernel
set_option maxRecDepth 65536 in
theorem w_runnable : about1.curStatus? = some .runnable := by decide +kernel
set_option maxRecDepth 65536 in
theorem w_alone : about1.alone = true := by decide +kernel
set_option maxRecDepth 65536 in
theorem w_named : about1.methodNamed? x = some theMethod := by decide +kernel
set_option maxRecDepth 65536 in
theorem w_hears : about1.hears theMethod below0 = true := by decide +kernel
set_option maxRecDepth 65536 in
theorem w_ripe : about1.ripe theMethod args0 below0 = true := by decide +kernel
theorem w_running : about1.status = .running := rfl
set_option maxRecDepth 65536 in
theorem w_room : about1.hasRoom e0.platform room_1 = true :=
  launch0.hasRoom_least _ room_1 (by decide +kernel) (by decide +kernel) (by decide +kernel) (by decide +kernel) (by decide +kernel) (by decide +kernel)
theorem allAtoms_all (ts : List Jvm.Cond) (a : Array Jvm.Value) (st : Jvm.State) : (allAtoms ts).before a st = ts.all (fun c => c.before a st) := by
  induction ts with
  | nil => rfl
  | cons c t ih =>
    show (Jvm.Cond.and c (allAtoms t)).before a st = _
    rw [Jvm.Cond.before_and, ih, List.all_cons]
def words1 : List Jvm.Cond := Jvm.Cond.code x code maxLocals ret :: tables_1
/-- a 'code' word, met by the world's own term for the bytes: nothing is compared byte by byte -/
theorem code_word {y : MethodName} {bytes : ByteArray} {mx : Nat} {rt : Option FieldType} {a : Array Value} {s : State} {m : MethodId} {meth : Method} {c : Code} (h1 : s.methodNamed? y = some m) (h2 : s.vm.method? m = some meth) (h3 : meth.code = some c) (h4 : c.code = bytes)
    (h5 : (c.maxLocals == mx && c.exceptionTable.isEmpty && decide (c.maxStack ≤ mostOperands) && decide (meth.sig.returnType = rt) && !meth.locks && decide (parseMethodDescriptor y.desc = some meth.sig)) = true) : (Jvm.Cond.code y bytes mx rt).before a s = true := by
  simp only [Bool.and_eq_true, beq_iff_eq, Bool.not_eq_true', decide_eq_true_eq] at h5
  obtain ⟨⟨⟨⟨⟨g1, g2⟩, g3⟩, g4⟩, g5⟩, g6⟩ := h5
  simp [Cond.before, Cond.holds, Cond.value, h1, h2, h3, h4, g1, g2, g3, g4, g5, g6]
def isCode : Jvm.Cond → Bool
  | .code _ _ _ _ => true
  | _ => false
theorem all_split {L : List Jvm.Cond} {P : Jvm.Cond → Bool} (h1 : L.all (fun c => isCode c || P c) = true) (h2 : ∀ c ∈ L.filter isCode, P c = true) : L.all P = true := by
  refine List.all_eq_true.mpr fun c hc => ?_
  have h := List.all_eq_true.mp h1 c hc
  rcases Bool.eq_false_or_eq_true (isCode c) with hi | hi
  · exact h2 c (List.mem_filter.mpr ⟨hc, hi⟩)
  · simpa [hi] using h
set_option maxRecDepth 65536 in
theorem w_c0 : (Jvm.Cond.code x code maxLocals ret).before args0 about1 = true := code_word (m := ⟨1, 2⟩) (meth := k1m2) (c := k1c2) (by decide +kernel) rfl rfl rfl (by decide +kernel)
set_option maxRecDepth 65536 in
theorem w_c1 : (Jvm.Cond.code ({ cls := "com/example/envelope/envelope/model/Wgs84IsPositionPinLaw", name := "within", desc := "(DD)Z" } : Jvm.MethodName) method_2_code (6 : Nat) (Option.some Jvm.ClassFile.FieldType.boolean)).before args0 about1 = true := code_word (m := ⟨1, 1⟩) (meth := k1m1) (c := k1c1) (by decide +kernel) rfl rfl rfl (by decide +kernel)
set_option maxRecDepth 65536 in
theorem w_c2 : (Jvm.Cond.code ({ cls := "com/example/envelope/envelope/model/Wgs84", name := "isPosition", desc := "(DD)Z" } : Jvm.MethodName) prog_31_method_2_code (4 : Nat) (Option.some Jvm.ClassFile.FieldType.boolean)).before args0 about1 = true := code_word (m := ⟨2, 1⟩) (meth := k2m1) (c := k2c1) (by decide +kernel) rfl rfl rfl (by decide +kernel)
set_option maxRecDepth 65536 in
theorem w_c3 : (Jvm.Cond.code ({ cls := "java/lang/Math", name := "abs", desc := "(D)D" } : Jvm.MethodName) jdk_29_method_64_code (2 : Nat) (Option.some Jvm.ClassFile.FieldType.double)).before args0 about1 = true := code_word (m := ⟨3, 1⟩) (meth := k3m1) (c := k3c1) (by decide +kernel) rfl rfl rfl (by decide +kernel)
def codes1 : List Jvm.Cond := [Jvm.Cond.code x code maxLocals ret, Jvm.Cond.code ({ cls := "com/example/envelope/envelope/model/Wgs84IsPositionPinLaw", name := "within", desc := "(DD)Z" } : Jvm.MethodName) method_2_code (6 : Nat) (Option.some Jvm.ClassFile.FieldType.boolean), Jvm.Cond.code ({ cls := "com/example/envelope/envelope/model/Wgs84", name := "isPosition", desc := "(DD)Z" } : Jvm.MethodName) prog_31_method_2_code (4 : Nat) (Option.some Jvm.ClassFile.FieldType.boolean), Jvm.Cond.code ({ cls := "java/lang/Math", name := "abs", desc := "(D)D" } : Jvm.MethodName) jdk_29_method_64_code (2 : Nat) (Option.some Jvm.ClassFile.FieldType.double)]
set_option maxRecDepth 65536 in
theorem codes_eq : words1.filter isCode = codes1 := rfl
theorem w_codes : ∀ c ∈ words1.filter isCode, c.before args0 about1 = true := by
  rw [codes_eq]
  intro c hc
  simp only [codes1, List.mem_cons, List.not_mem_nil, or_false] at hc
  rcases hc with rfl | rfl | rfl | rfl
  · exact w_c0
  · exact w_c1
  · exact w_c2
  · exact w_c3
set_option maxRecDepth 65536 in
theorem w_t1 : words1.all (fun c => isCode c || c.before args0 about1) = true := by decide +kernel
theorem w_tables : (allAtoms (Jvm.Cond.code x code maxLocals ret :: tables_1)).before args0 about1 = true := by
  rw [allAtoms_all]
  show words1.all (fun c => c.before args0 about1) = true
  refine all_split ?_ w_codes
  rw [w_t1]
set_option maxRecDepth 65536 in
theorem w_case : (Jvm.Cond.and given_1 narrow_1).before args0 about1 = true := by decide +kernel
theorem w_applies : (headSpec (Jvm.Cond.code x code maxLocals ret :: tables_1) room_1).applies x e0.platform about1 = true :=
  (Spec.applies_iff w_frames).mpr ⟨w_running, w_runnable, w_alone, w_named, w_hears, w_ripe, w_room, w_tables⟩
theorem atStart : AtStart classFile x code maxLocals ret World_1 tables_1 room_1 Calls_1 rest_1 Pre_1 launch0 p0 e0 about1 theMethod args0 below0 :=
  ⟨lists_1, trivial, launch0.admits_env _ _ _, launch0.least_env, fairChoices_fair.cas, fairChoices_fair.clock, w_frames, w_args, w_heap, w_applies, trivial, trivial, w_case⟩
end start1
theorem witness_1 : WitnessClaimed_1 := ⟨start1.p0, start1.e0, start1.about1, start1.theMethod, start1.args0, start1.below0, start1.atStart⟩
end Jvm.Pilot.@@N@@
