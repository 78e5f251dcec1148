import JvmDerived
import JvmDerived.Pilot.@@N@@Statement
import JvmDerived.Pilot.@@N@@Code
set_option linter.unusedVariables false
set_option linter.unusedSimpArgs false
namespace Jvm.Pilot.@@N@@
open Jvm Jvm.ClassFile Sem Op Lib Jvm.Free Jvm.Stand Jvm.LawKit Jvm.RoadKit Bundle Jvm.Pilot.@@N@@.Jvm.D
/-- the run goes on from here to an end at which K holds -/
def own_Go (p : Program) (e : Env) (below : List Frame) (T : State) (g : JFrame) (K : State → Outcome → Prop) : Prop := ∃ s₂ o, Steps p.tables e below (T.setTop g) s₂ ∧ K s₂ o
section OwnGo
variable {p : Program} {l : Launch} {e : Env} {R : Room} {s : State} {m : MethodId} {args : Array Value} {below : List Frame} {meth : Method} {c : Code} {T T' s₂ : State} {o : Outcome} {locs : List Loc} {cells slots : Nat} {g g' : JFrame} {K : State → Outcome → Prop}
theorem own_enter (q : g = g') (k : own_Go p e below T g' K) : ∃ s₂ o, Steps p.tables e below (T.setTop g) s₂ ∧ K s₂ o := by subst q; exact k
theorem own_st (h : ∀ t, Steps p.tables e below (T'.setTop g') t → Steps p.tables e below (T.setTop g) t) (k : own_Go p e below T' g' K) : own_Go p e below T g K := by
  obtain ⟨s2, o, h1, h2⟩ := k
  exact ⟨s2, o, h _ h1, h2⟩
theorem own_tr (h : Steps p.tables e below (T.setTop g) (T'.setTop g')) (k : own_Go p e below T' g' K) : own_Go p e below T g K := own_st (fun _ q => h.trans q) k
theorem own_fin (h : Steps p.tables e below (T.setTop g) s₂) (k : K s₂ o) : own_Go p e below T g K := ⟨s₂, o, h, k⟩
theorem own_retI (X : Stand p l e R s m args below meth c T locs cells slots) (hx : p.tables.exec = Jvm.exec) {pc : Nat} {Ls : Array Slot} {z : Int32} {rest : List Value} (hret : meth.sig.returnType = some .int) (hd : decode c.code pc = .ok (.ireturn, 1)) {fs : List Frame}
    (hl : ∀ (f : JFrame) (acts : List Action), f.method = m → f.locked = none → f.entered = [] → (doReturn e (T.setTop f) acts (some (.int z))).1 = T.setFrames fs) : Steps p.tables e below (T.setTop (mkF m pc Ls (.int z :: rest))) (T.setFrames fs) := by
  have hm' : T.vm.method? m = some meth := X.method'
  have hn : narrow .int (.int z) = .int z := rfl
  show Steps p.tables e below (T.setTop { method := m, pc := pc, locals := Ls, stack := _ :: rest, locked := none }) _
  jvm_step X.here [X.here.top, hx, hd, hm', hret, hn]
  first | (intro acts; rw [hl _ acts rfl rfl rfl]) | rw [hl _ _ rfl rfl rfl]
  exact Steps.refl _
theorem own_retD (X : Stand p l e R s m args below meth c T locs cells slots) (hx : p.tables.exec = Jvm.exec) {pc : Nat} {Ls : Array Slot} {z : UInt64} {rest : List Value} (hret : meth.sig.returnType = some .double) (hd : decode c.code pc = .ok (.dreturn, 1)) {fs : List Frame}
    (hl : ∀ (f : JFrame) (acts : List Action), f.method = m → f.locked = none → f.entered = [] → (doReturn e (T.setTop f) acts (some (.double z))).1 = T.setFrames fs) : Steps p.tables e below (T.setTop (mkF m pc Ls (.double z :: rest))) (T.setFrames fs) := by
  have hm' : T.vm.method? m = some meth := X.method'
  have hn : narrow .double (.double z) = .double z := rfl
  show Steps p.tables e below (T.setTop { method := m, pc := pc, locals := Ls, stack := _ :: rest, locked := none }) _
  jvm_step X.here [X.here.top, hx, hd, hm', hret, hn]
  first | (intro acts; rw [hl _ acts rfl rfl rfl]) | rw [hl _ _ rfl rfl rfl]
  exact Steps.refl _
theorem own_retL (X : Stand p l e R s m args below meth c T locs cells slots) (hx : p.tables.exec = Jvm.exec) {pc : Nat} {Ls : Array Slot} {z : Int64} {rest : List Value} (hret : meth.sig.returnType = some .long) (hd : decode c.code pc = .ok (.lreturn, 1)) {fs : List Frame}
    (hl : ∀ (f : JFrame) (acts : List Action), f.method = m → f.locked = none → f.entered = [] → (doReturn e (T.setTop f) acts (some (.long z))).1 = T.setFrames fs) : Steps p.tables e below (T.setTop (mkF m pc Ls (.long z :: rest))) (T.setFrames fs) := by
  have hm' : T.vm.method? m = some meth := X.method'
  have hn : narrow .long (.long z) = .long z := rfl
  show Steps p.tables e below (T.setTop { method := m, pc := pc, locals := Ls, stack := _ :: rest, locked := none }) _
  jvm_step X.here [X.here.top, hx, hd, hm', hret, hn]
  first | (intro acts; rw [hl _ acts rfl rfl rfl]) | rw [hl _ _ rfl rfl rfl]
  exact Steps.refl _
theorem own_retR (X : Stand p l e R s m args below meth c T locs cells slots) (hx : p.tables.exec = Jvm.exec) {pc : Nat} {Ls : Array Slot} {z : Value} {t : FieldType} {rest : List Value} (hz : z.isRef = true) (hret : meth.sig.returnType = some t) (ht : t.isReference = true) (hd : decode c.code pc = .ok (.areturn, 1)) {fs : List Frame}
    (hl : ∀ (f : JFrame) (acts : List Action), f.method = m → f.locked = none → f.entered = [] → (doReturn e (T.setTop f) acts (some z)).1 = T.setFrames fs) : Steps p.tables e below (T.setTop (mkF m pc Ls (z :: rest))) (T.setFrames fs) := by
  have hm' : T.vm.method? m = some meth := X.method'
  show Steps p.tables e below (T.setTop { method := m, pc := pc, locals := Ls, stack := _ :: rest, locked := none }) _
  jvm_step X.here [X.here.top, hx, hd, hm', hret, hz, ht]
  first | (intro acts; rw [hl _ acts rfl rfl rfl]) | rw [hl _ _ rfl rfl rfl]
  exact Steps.refl _
end OwnGo
section OwnD
open Jvm.FP
theorem own_b53 (x : Int32) : B53 x.toInt64 := by
  have h := rng32 x
  have e : x.toInt64.toInt = x.toInt := Int32.toInt_toInt64 x
  unfold B53
  omega
theorem own_dc (x y : Int32) (o : CmpOp) : cmpValue (FP.dcmp (FP.i2d x) (FP.i2d y)) o = lcmpW x.toInt64 y.toInt64 := by rw [i2d_w, i2d_w]; exact dcmpV_w (own_b53 x) (own_b53 y) o
theorem own_gt {x y : Int32} (h : (0 : Int32) < lcmpW x.toInt64 y.toInt64) : y.toInt < x.toInt := by
  have q := (lw_gt _ _).mp h
  rw [Int64.lt_iff_toInt_lt, Int32.toInt_toInt64, Int32.toInt_toInt64] at q
  exact q
theorem own_ngt {x y : Int32} (h : ¬ (0 : Int32) < lcmpW x.toInt64 y.toInt64) : x.toInt ≤ y.toInt := by
  have q : ¬ y.toInt64 < x.toInt64 := fun z => h ((lw_gt _ _).mpr z)
  rw [Int64.lt_iff_toInt_lt, Int32.toInt_toInt64, Int32.toInt_toInt64] at q
  omega
end OwnD
theorem d1_0 : decode prog_21_method_10_code 0 = .ok (.iconst 0, 1) := by decide +kernel
theorem d1_1 : decode prog_21_method_10_code 1 = .ok (.istore_n 1, 1) := by decide +kernel
theorem d1_2 : decode prog_21_method_10_code 2 = .ok (.iconst 1, 1) := by decide +kernel
theorem d1_3 : decode prog_21_method_10_code 3 = .ok (.istore_n 2, 1) := by decide +kernel
theorem d1_4 : decode prog_21_method_10_code 4 = .ok (.iload_n 2, 1) := by decide +kernel
theorem d1_5 : decode prog_21_method_10_code 5 = .ok (.aload_n 0, 1) := by decide +kernel
theorem d1_6 : decode prog_21_method_10_code 6 = .ok (.arraylength, 1) := by decide +kernel
theorem d1_7 : decode prog_21_method_10_code 7 = .ok (.if_icmp .ge 21, 3) := by decide +kernel
theorem d1_28 : decode prog_21_method_10_code 28 = .ok (.iload_n 1, 1) := by decide +kernel
theorem d1_29 : decode prog_21_method_10_code 29 = .ok (.ireturn, 1) := by decide +kernel
theorem pn_1 : plainName "com/example/spillback/spillback/behaviour/PlanSelector" = true := by first | (simp [plainName, overriddenIn]; done) | decide +kernel
theorem ef_rmHi1 (m : MethodId) (x0 : Addr) : entryFrame m #[(.ref x0)] 3 = mkF m 0 #[.val (.ref x0), .unset, .unset] [] := by first | (simp [entryFrame, mkF, argsToLocals, Value.category]; done) | rfl
def Q_rmHi1 (Z : State) (a1 : Addr) (kd : ClassId) (x0 : Int32) (h0 : Heap) (n0 : Nat) (v : Option Value) (h : Heap) (L : List Loc) : Prop := ∃ r : Int32, v = some (.int r) ∧ Fr n0 L ∧ h = h0 ∧ ((r = (0 : Int32) ∧ True))
set_option maxRecDepth 65536 in
set_option maxHeartbeats 40000000 in
theorem rmHi1 (l : Launch) (Z : State) (a0 : Array Value) (hw : ∀ d ∈ tables_1, d.before a0 Z = true) (ws : List Jvm.Cond) (a1 : Addr) (kd : ClassId) (x0 : Int32) (h0 : Heap) (n0 : Nat) (Z0 : n0 ≤ h0.size) (pV_a1 : Arv Z h0 a1 kd .double (1 : Int32) [(.double (FP.i2d x0))] (.double (0 : UInt64))) :
    MetFree l (⟨"com/example/spillback/spillback/behaviour/PlanSelector", "highest", "([D)I"⟩ : MethodName) (head1 (Jvm.Cond.code (⟨"com/example/spillback/spillback/behaviour/PlanSelector", "highest", "([D)I"⟩ : MethodName) prog_21_method_10_code 3 (some .int) :: ws) ({ frames := 0, cells := 0, slots := 0, locals := 0 } : Room)) (fun a U => a = #[(.ref a1)] ∧ Z.Warmed39 U.vm ∧ U.heap = h0) (fun _ _ _ _ _ => True) (fun _ U o U' => ∃ v L, o = .returned v ∧ Q_rmHi1 Z a1 kd x0 h0 n0 v U'.heap L ∧ FrameEnd U o U' L ({ frames := 0, cells := 0, slots := 0, locals := 0 } : Room).cells ({ frames := 0, cells := 0, slots := 0, locals := 0 } : Room).slots) := by
  refine MetFree.of_bodySF (plainFor_of_name pn_1) hisR ?_
  intro p e s m args below meth c s₁ Bd hml0 hP hK
  obtain ⟨rfl, hZ, hh⟩ := hP
  have hx := Bd.exec
  have hby := Bd.bytes
  have hml : c.maxLocals = 3 := hml0
  have hown : s.vm.findClass "com/example/spillback/spillback/behaviour/PlanSelector" = some m.cls := findClass_of_methodNamed Bd.named
  have hnm := (name_of_methodNamed Bd.named Bd.method).1
  have X0 : Stand p l e ({ frames := 0, cells := 0, slots := 0, locals := 0 } : Room) s m #[(.ref a1)] below meth c s₁ [] 0 0 := Stand.of_body Bd
  have e0 : s₁.heap = h0 := by rw [← hh, Bd.state]; rfl
  have N0 := Fr.nil n0
  refine own_enter (ef_rmHi1 m a1) ?_
  refine own_st (fun t_ k_ => XS.iconst X0.here hx rfl (hb hby d1_0) k_) ?_
  show own_Go p e below s₁ (mkF m 1 #[.val (.ref a1), .unset, .unset] [(.int (0 : Int32))]) _
  refine own_st (fun t_ k_ => XS.istoreN X0.here hx rfl (hb hby d1_1) rfl (l' := #[.val (.ref a1), .val (.int (0 : Int32)), .unset]) rfl k_) ?_
  show own_Go p e below s₁ (mkF m 2 #[.val (.ref a1), .val (.int (0 : Int32)), .unset] []) _
  refine own_st (fun t_ k_ => XS.iconst X0.here hx rfl (hb hby d1_2) k_) ?_
  show own_Go p e below s₁ (mkF m 3 #[.val (.ref a1), .val (.int (0 : Int32)), .unset] [(.int (1 : Int32))]) _
  refine own_st (fun t_ k_ => XS.istoreN X0.here hx rfl (hb hby d1_3) rfl (l' := #[.val (.ref a1), .val (.int (0 : Int32)), .val (.int (1 : Int32))]) rfl k_) ?_
  show own_Go p e below s₁ (mkF m 4 #[.val (.ref a1), .val (.int (0 : Int32)), .val (.int (1 : Int32))] []) _
  refine own_st (fun t_ k_ => XS.iloadN X0.here hx rfl (hb hby d1_4) rfl k_) ?_
  show own_Go p e below s₁ (mkF m 5 #[.val (.ref a1), .val (.int (0 : Int32)), .val (.int (1 : Int32))] [(.int (1 : Int32))]) _
  refine own_st (fun t_ k_ => XS.aloadN X0.here hx rfl (hb hby d1_5) rfl rfl k_) ?_
  show own_Go p e below s₁ (mkF m 6 #[.val (.ref a1), .val (.int (0 : Int32)), .val (.int (1 : Int32))] [(.ref a1), (.int (1 : Int32))]) _
  obtain ⟨cl1, Ar1, q1, Sz1, Nn1, Hh1, Gg1⟩ := id pV_a1
  refine own_st (fun t_ k_ => X0.arraylength hx (by rw [e0]; exact Ar1.1) (State.isArrayOf_alike hZ.alike Ar1.2.1) (g := (mkF m 6 #[.val (.ref a1), .val (.int (0 : Int32)), .val (.int (1 : Int32))] [(.ref a1), (.int (1 : Int32))])) rfl rfl (hb hby d1_6) _ k_) ?_
  rw [len_of Sz1 Nn1]
  show own_Go p e below s₁ (mkF m 7 #[.val (.ref a1), .val (.int (0 : Int32)), .val (.int (1 : Int32))] [(.int (1 : Int32)), (.int (1 : Int32))]) _
  refine own_st (fun t_ k_ => XS.icmpYes X0.here hx rfl (pc0 := 7) (pc' := 28) rfl (hb hby d1_7) rfl (by decide) (by decide) (by decide) k_) ?_
  show own_Go p e below s₁ (mkF m 28 #[.val (.ref a1), .val (.int (0 : Int32)), .val (.int (1 : Int32))] []) _
  refine own_st (fun t_ k_ => XS.iloadN X0.here hx rfl (hb hby d1_28) rfl k_) ?_
  show own_Go p e below s₁ (mkF m 29 #[.val (.ref a1), .val (.int (0 : Int32)), .val (.int (1 : Int32))] [(.int (0 : Int32))]) _
  obtain ⟨fs, hr, hrun, hended, hW, hsame⟩ := X0.leave (v := some (.int (0 : Int32))) (fun h => by rw [Bd.returns] at h; cases h)
  refine own_fin (own_retI X0 hx Bd.returns (hb hby d1_29) hr) ⟨hrun, hended, _, _, rfl, ?_, ⟨_, rfl⟩, hW, hsame.mono (by decide) (by decide)⟩
  show Q_rmHi1 Z a1 kd x0 h0 n0 _ s₁.heap _
  rw [e0]
  exact ⟨(0 : Int32), rfl, N0, rfl, ⟨rfl, trivial⟩⟩
theorem d1_10 : decode prog_21_method_10_code 10 = .ok (.aload_n 0, 1) := by decide +kernel
theorem d1_11 : decode prog_21_method_10_code 11 = .ok (.iload_n 2, 1) := by decide +kernel
theorem d1_12 : decode prog_21_method_10_code 12 = .ok (.daload, 1) := by decide +kernel
theorem d1_13 : decode prog_21_method_10_code 13 = .ok (.aload_n 0, 1) := by decide +kernel
theorem d1_14 : decode prog_21_method_10_code 14 = .ok (.iload_n 1, 1) := by decide +kernel
theorem d1_15 : decode prog_21_method_10_code 15 = .ok (.daload, 1) := by decide +kernel
theorem d1_16 : decode prog_21_method_10_code 16 = .ok (.dcmp .l, 1) := by decide +kernel
theorem d1_17 : decode prog_21_method_10_code 17 = .ok (.ifCond .le 5, 3) := by decide +kernel
theorem d1_20 : decode prog_21_method_10_code 20 = .ok (.iload_n 2, 1) := by decide +kernel
theorem d1_21 : decode prog_21_method_10_code 21 = .ok (.istore_n 1, 1) := by decide +kernel
theorem d1_22 : decode prog_21_method_10_code 22 = .ok (.iinc 2 1, 3) := by decide +kernel
theorem d1_25 : decode prog_21_method_10_code 25 = .ok (.goto (-21), 3) := by decide +kernel
theorem ef_rmHi2 (m : MethodId) (x0 : Addr) : entryFrame m #[(.ref x0)] 3 = mkF m 0 #[.val (.ref x0), .unset, .unset] [] := by first | (simp [entryFrame, mkF, argsToLocals, Value.category]; done) | rfl
def Q_rmHi2 (Z : State) (a1 : Addr) (kd : ClassId) (x0 : Int32) (x1 : Int32) (h0 : Heap) (n0 : Nat) (v : Option Value) (h : Heap) (L : List Loc) : Prop := ∃ r : Int32, v = some (.int r) ∧ Fr n0 L ∧ h = h0 ∧ ((r = (0 : Int32) ∧ x1.toInt ≤ x0.toInt) ∨ (r = (1 : Int32) ∧ x0.toInt < x1.toInt))
set_option maxRecDepth 65536 in
set_option maxHeartbeats 40000000 in
theorem rmHi2 (l : Launch) (Z : State) (a0 : Array Value) (hw : ∀ d ∈ tables_1, d.before a0 Z = true) (ws : List Jvm.Cond) (a1 : Addr) (kd : ClassId) (x0 : Int32) (x1 : Int32) (h0 : Heap) (n0 : Nat) (Z0 : n0 ≤ h0.size) (pV_a1 : Arv Z h0 a1 kd .double (2 : Int32) [(.double (FP.i2d x0)), (.double (FP.i2d x1))] (.double (0 : UInt64))) :
    MetFree l (⟨"com/example/spillback/spillback/behaviour/PlanSelector", "highest", "([D)I"⟩ : MethodName) (head1 (Jvm.Cond.code (⟨"com/example/spillback/spillback/behaviour/PlanSelector", "highest", "([D)I"⟩ : MethodName) prog_21_method_10_code 3 (some .int) :: ws) ({ frames := 0, cells := 0, slots := 0, locals := 0 } : Room)) (fun a U => a = #[(.ref a1)] ∧ Z.Warmed39 U.vm ∧ U.heap = h0) (fun _ _ _ _ _ => True) (fun _ U o U' => ∃ v L, o = .returned v ∧ Q_rmHi2 Z a1 kd x0 x1 h0 n0 v U'.heap L ∧ FrameEnd U o U' L ({ frames := 0, cells := 0, slots := 0, locals := 0 } : Room).cells ({ frames := 0, cells := 0, slots := 0, locals := 0 } : Room).slots) := by
  refine MetFree.of_bodySF (plainFor_of_name pn_1) hisR ?_
  intro p e s m args below meth c s₁ Bd hml0 hP hK
  obtain ⟨rfl, hZ, hh⟩ := hP
  have hx := Bd.exec
  have hby := Bd.bytes
  have hml : c.maxLocals = 3 := hml0
  have hown : s.vm.findClass "com/example/spillback/spillback/behaviour/PlanSelector" = some m.cls := findClass_of_methodNamed Bd.named
  have hnm := (name_of_methodNamed Bd.named Bd.method).1
  have X0 : Stand p l e ({ frames := 0, cells := 0, slots := 0, locals := 0 } : Room) s m #[(.ref a1)] below meth c s₁ [] 0 0 := Stand.of_body Bd
  have e0 : s₁.heap = h0 := by rw [← hh, Bd.state]; rfl
  have N0 := Fr.nil n0
  refine own_enter (ef_rmHi2 m a1) ?_
  refine own_st (fun t_ k_ => XS.iconst X0.here hx rfl (hb hby d1_0) k_) ?_
  show own_Go p e below s₁ (mkF m 1 #[.val (.ref a1), .unset, .unset] [(.int (0 : Int32))]) _
  refine own_st (fun t_ k_ => XS.istoreN X0.here hx rfl (hb hby d1_1) rfl (l' := #[.val (.ref a1), .val (.int (0 : Int32)), .unset]) rfl k_) ?_
  show own_Go p e below s₁ (mkF m 2 #[.val (.ref a1), .val (.int (0 : Int32)), .unset] []) _
  refine own_st (fun t_ k_ => XS.iconst X0.here hx rfl (hb hby d1_2) k_) ?_
  show own_Go p e below s₁ (mkF m 3 #[.val (.ref a1), .val (.int (0 : Int32)), .unset] [(.int (1 : Int32))]) _
  refine own_st (fun t_ k_ => XS.istoreN X0.here hx rfl (hb hby d1_3) rfl (l' := #[.val (.ref a1), .val (.int (0 : Int32)), .val (.int (1 : Int32))]) rfl k_) ?_
  show own_Go p e below s₁ (mkF m 4 #[.val (.ref a1), .val (.int (0 : Int32)), .val (.int (1 : Int32))] []) _
  refine own_st (fun t_ k_ => XS.iloadN X0.here hx rfl (hb hby d1_4) rfl k_) ?_
  show own_Go p e below s₁ (mkF m 5 #[.val (.ref a1), .val (.int (0 : Int32)), .val (.int (1 : Int32))] [(.int (1 : Int32))]) _
  refine own_st (fun t_ k_ => XS.aloadN X0.here hx rfl (hb hby d1_5) rfl rfl k_) ?_
  show own_Go p e below s₁ (mkF m 6 #[.val (.ref a1), .val (.int (0 : Int32)), .val (.int (1 : Int32))] [(.ref a1), (.int (1 : Int32))]) _
  obtain ⟨cl1, Ar1, q1, Sz1, Nn1, Hh1, Gg1⟩ := id pV_a1
  refine own_st (fun t_ k_ => X0.arraylength hx (by rw [e0]; exact Ar1.1) (State.isArrayOf_alike hZ.alike Ar1.2.1) (g := (mkF m 6 #[.val (.ref a1), .val (.int (0 : Int32)), .val (.int (1 : Int32))] [(.ref a1), (.int (1 : Int32))])) rfl rfl (hb hby d1_6) _ k_) ?_
  rw [len_of Sz1 Nn1]
  show own_Go p e below s₁ (mkF m 7 #[.val (.ref a1), .val (.int (0 : Int32)), .val (.int (1 : Int32))] [(.int (2 : Int32)), (.int (1 : Int32))]) _
  refine own_st (fun t_ k_ => XS.icmpNo X0.here hx rfl (hb hby d1_7) rfl (by decide) k_) ?_
  show own_Go p e below s₁ (mkF m 10 #[.val (.ref a1), .val (.int (0 : Int32)), .val (.int (1 : Int32))] []) _
  refine own_st (fun t_ k_ => XS.aloadN X0.here hx rfl (hb hby d1_10) rfl rfl k_) ?_
  show own_Go p e below s₁ (mkF m 11 #[.val (.ref a1), .val (.int (0 : Int32)), .val (.int (1 : Int32))] [(.ref a1)]) _
  refine own_st (fun t_ k_ => XS.iloadN X0.here hx rfl (hb hby d1_11) rfl k_) ?_
  show own_Go p e below s₁ (mkF m 12 #[.val (.ref a1), .val (.int (0 : Int32)), .val (.int (1 : Int32))] [(.int (1 : Int32)), (.ref a1)]) _
  obtain ⟨cl2, Ar2, q2, Sz2, Nn2, Hh2, Gg2⟩ := id pV_a1
  have hin2 : ¬ ((1 : Int32) < 0 ∨ cl2.slots.size ≤ ((1 : Int32)).toNatClampNeg) := inb_of Sz2 ⟨by decide, by decide⟩
  have hat2 : cl2.slots[((1 : Int32)).toNatClampNeg]? = some (.double (FP.i2d x1)) := Has.at Hh2 hin2 rfl
  refine own_st (fun t_ k_ => X0.daload hx (j := (1 : Int32)) (v := (.double (FP.i2d x1))) (by rw [e0]; exact Ar2.1) (State.isArrayOf_alike hZ.alike Ar2.2.1) Ar2.2.2 hin2 hat2 (g := (mkF m 12 #[.val (.ref a1), .val (.int (0 : Int32)), .val (.int (1 : Int32))] [(.int (1 : Int32)), (.ref a1)])) rfl rfl (hb hby d1_12) _ k_) ?_
  show own_Go p e below s₁ (mkF m 13 #[.val (.ref a1), .val (.int (0 : Int32)), .val (.int (1 : Int32))] [(.double (FP.i2d x1))]) _
  refine own_st (fun t_ k_ => XS.aloadN X0.here hx rfl (hb hby d1_13) rfl rfl k_) ?_
  show own_Go p e below s₁ (mkF m 14 #[.val (.ref a1), .val (.int (0 : Int32)), .val (.int (1 : Int32))] [(.ref a1), (.double (FP.i2d x1))]) _
  refine own_st (fun t_ k_ => XS.iloadN X0.here hx rfl (hb hby d1_14) rfl k_) ?_
  show own_Go p e below s₁ (mkF m 15 #[.val (.ref a1), .val (.int (0 : Int32)), .val (.int (1 : Int32))] [(.int (0 : Int32)), (.ref a1), (.double (FP.i2d x1))]) _
  obtain ⟨cl3, Ar3, q3, Sz3, Nn3, Hh3, Gg3⟩ := id pV_a1
  have hin3 : ¬ ((0 : Int32) < 0 ∨ cl3.slots.size ≤ ((0 : Int32)).toNatClampNeg) := inb_of Sz3 ⟨by decide, by decide⟩
  have hat3 : cl3.slots[((0 : Int32)).toNatClampNeg]? = some (.double (FP.i2d x0)) := Has.at Hh3 hin3 rfl
  refine own_st (fun t_ k_ => X0.daload hx (j := (0 : Int32)) (v := (.double (FP.i2d x0))) (by rw [e0]; exact Ar3.1) (State.isArrayOf_alike hZ.alike Ar3.2.1) Ar3.2.2 hin3 hat3 (g := (mkF m 15 #[.val (.ref a1), .val (.int (0 : Int32)), .val (.int (1 : Int32))] [(.int (0 : Int32)), (.ref a1), (.double (FP.i2d x1))])) rfl rfl (hb hby d1_15) _ k_) ?_
  show own_Go p e below s₁ (mkF m 16 #[.val (.ref a1), .val (.int (0 : Int32)), .val (.int (1 : Int32))] [(.double (FP.i2d x0)), (.double (FP.i2d x1))]) _
  refine own_st (fun t_ k_ => XS.dcmpS X0.here hx rfl (hb hby d1_16) rfl (own_dc x1 x0 _) k_) ?_
  show own_Go p e below s₁ (mkF m 17 #[.val (.ref a1), .val (.int (0 : Int32)), .val (.int (1 : Int32))] [(.int (lcmpW x1.toInt64 x0.toInt64))]) _
  by_cases hc_x1_x0 : (0 : Int32) < (lcmpW x1.toInt64 x0.toInt64)
  · skip
    refine own_st (fun t_ k_ => XS.ifNo X0.here hx rfl (hb hby d1_17) rfl ((if0 _ _).trans (tlt hc_x1_x0).2.2.2) k_) ?_
    show own_Go p e below s₁ (mkF m 20 #[.val (.ref a1), .val (.int (0 : Int32)), .val (.int (1 : Int32))] []) _
    have o_hc_x1_x0 := own_gt hc_x1_x0
    refine own_st (fun t_ k_ => XS.iloadN X0.here hx rfl (hb hby d1_20) rfl k_) ?_
    show own_Go p e below s₁ (mkF m 21 #[.val (.ref a1), .val (.int (0 : Int32)), .val (.int (1 : Int32))] [(.int (1 : Int32))]) _
    refine own_st (fun t_ k_ => XS.istoreN X0.here hx rfl (hb hby d1_21) rfl (l' := #[.val (.ref a1), .val (.int (1 : Int32)), .val (.int (1 : Int32))]) rfl k_) ?_
    show own_Go p e below s₁ (mkF m 22 #[.val (.ref a1), .val (.int (1 : Int32)), .val (.int (1 : Int32))] []) _
    refine own_st (fun t_ k_ => XS.iinc X0.here hx rfl (hb hby d1_22) rfl (l' := #[.val (.ref a1), .val (.int (1 : Int32)), .val (.int (2 : Int32))]) rfl k_) ?_
    show own_Go p e below s₁ (mkF m 25 #[.val (.ref a1), .val (.int (1 : Int32)), .val (.int (2 : Int32))] []) _
    refine own_st (fun t_ k_ => XS.goto X0.here hx rfl (pc0 := 25) (pc' := 4) rfl (hb hby d1_25) (by decide) (by decide) k_) ?_
    show own_Go p e below s₁ (mkF m 4 #[.val (.ref a1), .val (.int (1 : Int32)), .val (.int (2 : Int32))] []) _
    refine own_st (fun t_ k_ => XS.iloadN X0.here hx rfl (hb hby d1_4) rfl k_) ?_
    show own_Go p e below s₁ (mkF m 5 #[.val (.ref a1), .val (.int (1 : Int32)), .val (.int (2 : Int32))] [(.int (2 : Int32))]) _
    refine own_st (fun t_ k_ => XS.aloadN X0.here hx rfl (hb hby d1_5) rfl rfl k_) ?_
    show own_Go p e below s₁ (mkF m 6 #[.val (.ref a1), .val (.int (1 : Int32)), .val (.int (2 : Int32))] [(.ref a1), (.int (2 : Int32))]) _
    obtain ⟨cl4, Ar4, q4, Sz4, Nn4, Hh4, Gg4⟩ := id pV_a1
    refine own_st (fun t_ k_ => X0.arraylength hx (by rw [e0]; exact Ar4.1) (State.isArrayOf_alike hZ.alike Ar4.2.1) (g := (mkF m 6 #[.val (.ref a1), .val (.int (1 : Int32)), .val (.int (2 : Int32))] [(.ref a1), (.int (2 : Int32))])) rfl rfl (hb hby d1_6) _ k_) ?_
    rw [len_of Sz4 Nn4]
    show own_Go p e below s₁ (mkF m 7 #[.val (.ref a1), .val (.int (1 : Int32)), .val (.int (2 : Int32))] [(.int (2 : Int32)), (.int (2 : Int32))]) _
    refine own_st (fun t_ k_ => XS.icmpYes X0.here hx rfl (pc0 := 7) (pc' := 28) rfl (hb hby d1_7) rfl (by decide) (by decide) (by decide) k_) ?_
    show own_Go p e below s₁ (mkF m 28 #[.val (.ref a1), .val (.int (1 : Int32)), .val (.int (2 : Int32))] []) _
    refine own_st (fun t_ k_ => XS.iloadN X0.here hx rfl (hb hby d1_28) rfl k_) ?_
    show own_Go p e below s₁ (mkF m 29 #[.val (.ref a1), .val (.int (1 : Int32)), .val (.int (2 : Int32))] [(.int (1 : Int32))]) _
    obtain ⟨fs, hr, hrun, hended, hW, hsame⟩ := X0.leave (v := some (.int (1 : Int32))) (fun h => by rw [Bd.returns] at h; cases h)
    refine own_fin (own_retI X0 hx Bd.returns (hb hby d1_29) hr) ⟨hrun, hended, _, _, rfl, ?_, ⟨_, rfl⟩, hW, hsame.mono (by decide) (by decide)⟩
    show Q_rmHi2 Z a1 kd x0 x1 h0 n0 _ s₁.heap _
    rw [e0]
    exact ⟨(1 : Int32), rfl, N0, rfl, (Or.inr ⟨rfl, (by omega)⟩)⟩
  · skip
    refine own_st (fun t_ k_ => XS.ifYes X0.here hx rfl (pc0 := 17) (pc' := 22) rfl (hb hby d1_17) rfl ((if0 _ _).trans (flt hc_x1_x0).2.2.2) (by decide) (by decide) k_) ?_
    show own_Go p e below s₁ (mkF m 22 #[.val (.ref a1), .val (.int (0 : Int32)), .val (.int (1 : Int32))] []) _
    have o_hc_x1_x0 := own_ngt hc_x1_x0
    refine own_st (fun t_ k_ => XS.iinc X0.here hx rfl (hb hby d1_22) rfl (l' := #[.val (.ref a1), .val (.int (0 : Int32)), .val (.int (2 : Int32))]) rfl k_) ?_
    show own_Go p e below s₁ (mkF m 25 #[.val (.ref a1), .val (.int (0 : Int32)), .val (.int (2 : Int32))] []) _
    refine own_st (fun t_ k_ => XS.goto X0.here hx rfl (pc0 := 25) (pc' := 4) rfl (hb hby d1_25) (by decide) (by decide) k_) ?_
    show own_Go p e below s₁ (mkF m 4 #[.val (.ref a1), .val (.int (0 : Int32)), .val (.int (2 : Int32))] []) _
    refine own_st (fun t_ k_ => XS.iloadN X0.here hx rfl (hb hby d1_4) rfl k_) ?_
    show own_Go p e below s₁ (mkF m 5 #[.val (.ref a1), .val (.int (0 : Int32)), .val (.int (2 : Int32))] [(.int (2 : Int32))]) _
    refine own_st (fun t_ k_ => XS.aloadN X0.here hx rfl (hb hby d1_5) rfl rfl k_) ?_
    show own_Go p e below s₁ (mkF m 6 #[.val (.ref a1), .val (.int (0 : Int32)), .val (.int (2 : Int32))] [(.ref a1), (.int (2 : Int32))]) _
    obtain ⟨cl5, Ar5, q5, Sz5, Nn5, Hh5, Gg5⟩ := id pV_a1
    refine own_st (fun t_ k_ => X0.arraylength hx (by rw [e0]; exact Ar5.1) (State.isArrayOf_alike hZ.alike Ar5.2.1) (g := (mkF m 6 #[.val (.ref a1), .val (.int (0 : Int32)), .val (.int (2 : Int32))] [(.ref a1), (.int (2 : Int32))])) rfl rfl (hb hby d1_6) _ k_) ?_
    rw [len_of Sz5 Nn5]
    show own_Go p e below s₁ (mkF m 7 #[.val (.ref a1), .val (.int (0 : Int32)), .val (.int (2 : Int32))] [(.int (2 : Int32)), (.int (2 : Int32))]) _
    refine own_st (fun t_ k_ => XS.icmpYes X0.here hx rfl (pc0 := 7) (pc' := 28) rfl (hb hby d1_7) rfl (by decide) (by decide) (by decide) k_) ?_
    show own_Go p e below s₁ (mkF m 28 #[.val (.ref a1), .val (.int (0 : Int32)), .val (.int (2 : Int32))] []) _
    refine own_st (fun t_ k_ => XS.iloadN X0.here hx rfl (hb hby d1_28) rfl k_) ?_
    show own_Go p e below s₁ (mkF m 29 #[.val (.ref a1), .val (.int (0 : Int32)), .val (.int (2 : Int32))] [(.int (0 : Int32))]) _
    obtain ⟨fs, hr, hrun, hended, hW, hsame⟩ := X0.leave (v := some (.int (0 : Int32))) (fun h => by rw [Bd.returns] at h; cases h)
    refine own_fin (own_retI X0 hx Bd.returns (hb hby d1_29) hr) ⟨hrun, hended, _, _, rfl, ?_, ⟨_, rfl⟩, hW, hsame.mono (by decide) (by decide)⟩
    show Q_rmHi2 Z a1 kd x0 x1 h0 n0 _ s₁.heap _
    rw [e0]
    exact ⟨(0 : Int32), rfl, N0, rfl, (Or.inl ⟨rfl, (by omega)⟩)⟩
theorem ef_rmHi3 (m : MethodId) (x0 : Addr) : entryFrame m #[(.ref x0)] 3 = mkF m 0 #[.val (.ref x0), .unset, .unset] [] := by first | (simp [entryFrame, mkF, argsToLocals, Value.category]; done) | rfl
def Q_rmHi3 (Z : State) (a1 : Addr) (kd : ClassId) (x0 : Int32) (x1 : Int32) (x2 : Int32) (h0 : Heap) (n0 : Nat) (v : Option Value) (h : Heap) (L : List Loc) : Prop := ∃ r : Int32, v = some (.int r) ∧ Fr n0 L ∧ h = h0 ∧ ((r = (0 : Int32) ∧ x1.toInt ≤ x0.toInt ∧ x2.toInt ≤ x0.toInt) ∨ (r = (1 : Int32) ∧ x0.toInt < x1.toInt ∧ x2.toInt ≤ x1.toInt) ∨ (r = (2 : Int32) ∧ x0.toInt < x2.toInt ∧ x1.toInt < x2.toInt))
set_option maxRecDepth 65536 in
set_option maxHeartbeats 40000000 in
theorem rmHi3 (l : Launch) (Z : State) (a0 : Array Value) (hw : ∀ d ∈ tables_1, d.before a0 Z = true) (ws : List Jvm.Cond) (a1 : Addr) (kd : ClassId) (x0 : Int32) (x1 : Int32) (x2 : Int32) (h0 : Heap) (n0 : Nat) (Z0 : n0 ≤ h0.size) (pV_a1 : Arv Z h0 a1 kd .double (3 : Int32) [(.double (FP.i2d x0)), (.double (FP.i2d x1)), (.double (FP.i2d x2))] (.double (0 : UInt64))) :
    MetFree l (⟨"com/example/spillback/spillback/behaviour/PlanSelector", "highest", "([D)I"⟩ : MethodName) (head1 (Jvm.Cond.code (⟨"com/example/spillback/spillback/behaviour/PlanSelector", "highest", "([D)I"⟩ : MethodName) prog_21_method_10_code 3 (some .int) :: ws) ({ frames := 0, cells := 0, slots := 0, locals := 0 } : Room)) (fun a U => a = #[(.ref a1)] ∧ Z.Warmed39 U.vm ∧ U.heap = h0) (fun _ _ _ _ _ => True) (fun _ U o U' => ∃ v L, o = .returned v ∧ Q_rmHi3 Z a1 kd x0 x1 x2 h0 n0 v U'.heap L ∧ FrameEnd U o U' L ({ frames := 0, cells := 0, slots := 0, locals := 0 } : Room).cells ({ frames := 0, cells := 0, slots := 0, locals := 0 } : Room).slots) := by
  refine MetFree.of_bodySF (plainFor_of_name pn_1) hisR ?_
  intro p e s m args below meth c s₁ Bd hml0 hP hK
  obtain ⟨rfl, hZ, hh⟩ := hP
  have hx := Bd.exec
  have hby := Bd.bytes
  have hml : c.maxLocals = 3 := hml0
  have hown : s.vm.findClass "com/example/spillback/spillback/behaviour/PlanSelector" = some m.cls := findClass_of_methodNamed Bd.named
  have hnm := (name_of_methodNamed Bd.named Bd.method).1
  have X0 : Stand p l e ({ frames := 0, cells := 0, slots := 0, locals := 0 } : Room) s m #[(.ref a1)] below meth c s₁ [] 0 0 := Stand.of_body Bd
  have e0 : s₁.heap = h0 := by rw [← hh, Bd.state]; rfl
  have N0 := Fr.nil n0
  refine own_enter (ef_rmHi3 m a1) ?_
  refine own_st (fun t_ k_ => XS.iconst X0.here hx rfl (hb hby d1_0) k_) ?_
  show own_Go p e below s₁ (mkF m 1 #[.val (.ref a1), .unset, .unset] [(.int (0 : Int32))]) _
  refine own_st (fun t_ k_ => XS.istoreN X0.here hx rfl (hb hby d1_1) rfl (l' := #[.val (.ref a1), .val (.int (0 : Int32)), .unset]) rfl k_) ?_
  show own_Go p e below s₁ (mkF m 2 #[.val (.ref a1), .val (.int (0 : Int32)), .unset] []) _
  refine own_st (fun t_ k_ => XS.iconst X0.here hx rfl (hb hby d1_2) k_) ?_
  show own_Go p e below s₁ (mkF m 3 #[.val (.ref a1), .val (.int (0 : Int32)), .unset] [(.int (1 : Int32))]) _
  refine own_st (fun t_ k_ => XS.istoreN X0.here hx rfl (hb hby d1_3) rfl (l' := #[.val (.ref a1), .val (.int (0 : Int32)), .val (.int (1 : Int32))]) rfl k_) ?_
  show own_Go p e below s₁ (mkF m 4 #[.val (.ref a1), .val (.int (0 : Int32)), .val (.int (1 : Int32))] []) _
  refine own_st (fun t_ k_ => XS.iloadN X0.here hx rfl (hb hby d1_4) rfl k_) ?_
  show own_Go p e below s₁ (mkF m 5 #[.val (.ref a1), .val (.int (0 : Int32)), .val (.int (1 : Int32))] [(.int (1 : Int32))]) _
  refine own_st (fun t_ k_ => XS.aloadN X0.here hx rfl (hb hby d1_5) rfl rfl k_) ?_
  show own_Go p e below s₁ (mkF m 6 #[.val (.ref a1), .val (.int (0 : Int32)), .val (.int (1 : Int32))] [(.ref a1), (.int (1 : Int32))]) _
  obtain ⟨cl1, Ar1, q1, Sz1, Nn1, Hh1, Gg1⟩ := id pV_a1
  refine own_st (fun t_ k_ => X0.arraylength hx (by rw [e0]; exact Ar1.1) (State.isArrayOf_alike hZ.alike Ar1.2.1) (g := (mkF m 6 #[.val (.ref a1), .val (.int (0 : Int32)), .val (.int (1 : Int32))] [(.ref a1), (.int (1 : Int32))])) rfl rfl (hb hby d1_6) _ k_) ?_
  rw [len_of Sz1 Nn1]
  show own_Go p e below s₁ (mkF m 7 #[.val (.ref a1), .val (.int (0 : Int32)), .val (.int (1 : Int32))] [(.int (3 : Int32)), (.int (1 : Int32))]) _
  refine own_st (fun t_ k_ => XS.icmpNo X0.here hx rfl (hb hby d1_7) rfl (by decide) k_) ?_
  show own_Go p e below s₁ (mkF m 10 #[.val (.ref a1), .val (.int (0 : Int32)), .val (.int (1 : Int32))] []) _
  refine own_st (fun t_ k_ => XS.aloadN X0.here hx rfl (hb hby d1_10) rfl rfl k_) ?_
  show own_Go p e below s₁ (mkF m 11 #[.val (.ref a1), .val (.int (0 : Int32)), .val (.int (1 : Int32))] [(.ref a1)]) _
  refine own_st (fun t_ k_ => XS.iloadN X0.here hx rfl (hb hby d1_11) rfl k_) ?_
  show own_Go p e below s₁ (mkF m 12 #[.val (.ref a1), .val (.int (0 : Int32)), .val (.int (1 : Int32))] [(.int (1 : Int32)), (.ref a1)]) _
  obtain ⟨cl2, Ar2, q2, Sz2, Nn2, Hh2, Gg2⟩ := id pV_a1
  have hin2 : ¬ ((1 : Int32) < 0 ∨ cl2.slots.size ≤ ((1 : Int32)).toNatClampNeg) := inb_of Sz2 ⟨by decide, by decide⟩
  have hat2 : cl2.slots[((1 : Int32)).toNatClampNeg]? = some (.double (FP.i2d x1)) := Has.at Hh2 hin2 rfl
  refine own_st (fun t_ k_ => X0.daload hx (j := (1 : Int32)) (v := (.double (FP.i2d x1))) (by rw [e0]; exact Ar2.1) (State.isArrayOf_alike hZ.alike Ar2.2.1) Ar2.2.2 hin2 hat2 (g := (mkF m 12 #[.val (.ref a1), .val (.int (0 : Int32)), .val (.int (1 : Int32))] [(.int (1 : Int32)), (.ref a1)])) rfl rfl (hb hby d1_12) _ k_) ?_
  show own_Go p e below s₁ (mkF m 13 #[.val (.ref a1), .val (.int (0 : Int32)), .val (.int (1 : Int32))] [(.double (FP.i2d x1))]) _
  refine own_st (fun t_ k_ => XS.aloadN X0.here hx rfl (hb hby d1_13) rfl rfl k_) ?_
  show own_Go p e below s₁ (mkF m 14 #[.val (.ref a1), .val (.int (0 : Int32)), .val (.int (1 : Int32))] [(.ref a1), (.double (FP.i2d x1))]) _
  refine own_st (fun t_ k_ => XS.iloadN X0.here hx rfl (hb hby d1_14) rfl k_) ?_
  show own_Go p e below s₁ (mkF m 15 #[.val (.ref a1), .val (.int (0 : Int32)), .val (.int (1 : Int32))] [(.int (0 : Int32)), (.ref a1), (.double (FP.i2d x1))]) _
  obtain ⟨cl3, Ar3, q3, Sz3, Nn3, Hh3, Gg3⟩ := id pV_a1
  have hin3 : ¬ ((0 : Int32) < 0 ∨ cl3.slots.size ≤ ((0 : Int32)).toNatClampNeg) := inb_of Sz3 ⟨by decide, by decide⟩
  have hat3 : cl3.slots[((0 : Int32)).toNatClampNeg]? = some (.double (FP.i2d x0)) := Has.at Hh3 hin3 rfl
  refine own_st (fun t_ k_ => X0.daload hx (j := (0 : Int32)) (v := (.double (FP.i2d x0))) (by rw [e0]; exact Ar3.1) (State.isArrayOf_alike hZ.alike Ar3.2.1) Ar3.2.2 hin3 hat3 (g := (mkF m 15 #[.val (.ref a1), .val (.int (0 : Int32)), .val (.int (1 : Int32))] [(.int (0 : Int32)), (.ref a1), (.double (FP.i2d x1))])) rfl rfl (hb hby d1_15) _ k_) ?_
  show own_Go p e below s₁ (mkF m 16 #[.val (.ref a1), .val (.int (0 : Int32)), .val (.int (1 : Int32))] [(.double (FP.i2d x0)), (.double (FP.i2d x1))]) _
  refine own_st (fun t_ k_ => XS.dcmpS X0.here hx rfl (hb hby d1_16) rfl (own_dc x1 x0 _) k_) ?_
  show own_Go p e below s₁ (mkF m 17 #[.val (.ref a1), .val (.int (0 : Int32)), .val (.int (1 : Int32))] [(.int (lcmpW x1.toInt64 x0.toInt64))]) _
  by_cases hc_x1_x0 : (0 : Int32) < (lcmpW x1.toInt64 x0.toInt64)
  · skip
    refine own_st (fun t_ k_ => XS.ifNo X0.here hx rfl (hb hby d1_17) rfl ((if0 _ _).trans (tlt hc_x1_x0).2.2.2) k_) ?_
    show own_Go p e below s₁ (mkF m 20 #[.val (.ref a1), .val (.int (0 : Int32)), .val (.int (1 : Int32))] []) _
    have o_hc_x1_x0 := own_gt hc_x1_x0
    refine own_st (fun t_ k_ => XS.iloadN X0.here hx rfl (hb hby d1_20) rfl k_) ?_
    show own_Go p e below s₁ (mkF m 21 #[.val (.ref a1), .val (.int (0 : Int32)), .val (.int (1 : Int32))] [(.int (1 : Int32))]) _
    refine own_st (fun t_ k_ => XS.istoreN X0.here hx rfl (hb hby d1_21) rfl (l' := #[.val (.ref a1), .val (.int (1 : Int32)), .val (.int (1 : Int32))]) rfl k_) ?_
    show own_Go p e below s₁ (mkF m 22 #[.val (.ref a1), .val (.int (1 : Int32)), .val (.int (1 : Int32))] []) _
    refine own_st (fun t_ k_ => XS.iinc X0.here hx rfl (hb hby d1_22) rfl (l' := #[.val (.ref a1), .val (.int (1 : Int32)), .val (.int (2 : Int32))]) rfl k_) ?_
    show own_Go p e below s₁ (mkF m 25 #[.val (.ref a1), .val (.int (1 : Int32)), .val (.int (2 : Int32))] []) _
    refine own_st (fun t_ k_ => XS.goto X0.here hx rfl (pc0 := 25) (pc' := 4) rfl (hb hby d1_25) (by decide) (by decide) k_) ?_
    show own_Go p e below s₁ (mkF m 4 #[.val (.ref a1), .val (.int (1 : Int32)), .val (.int (2 : Int32))] []) _
    refine own_st (fun t_ k_ => XS.iloadN X0.here hx rfl (hb hby d1_4) rfl k_) ?_
    show own_Go p e below s₁ (mkF m 5 #[.val (.ref a1), .val (.int (1 : Int32)), .val (.int (2 : Int32))] [(.int (2 : Int32))]) _
    refine own_st (fun t_ k_ => XS.aloadN X0.here hx rfl (hb hby d1_5) rfl rfl k_) ?_
    show own_Go p e below s₁ (mkF m 6 #[.val (.ref a1), .val (.int (1 : Int32)), .val (.int (2 : Int32))] [(.ref a1), (.int (2 : Int32))]) _
    obtain ⟨cl4, Ar4, q4, Sz4, Nn4, Hh4, Gg4⟩ := id pV_a1
    refine own_st (fun t_ k_ => X0.arraylength hx (by rw [e0]; exact Ar4.1) (State.isArrayOf_alike hZ.alike Ar4.2.1) (g := (mkF m 6 #[.val (.ref a1), .val (.int (1 : Int32)), .val (.int (2 : Int32))] [(.ref a1), (.int (2 : Int32))])) rfl rfl (hb hby d1_6) _ k_) ?_
    rw [len_of Sz4 Nn4]
    show own_Go p e below s₁ (mkF m 7 #[.val (.ref a1), .val (.int (1 : Int32)), .val (.int (2 : Int32))] [(.int (3 : Int32)), (.int (2 : Int32))]) _
    refine own_st (fun t_ k_ => XS.icmpNo X0.here hx rfl (hb hby d1_7) rfl (by decide) k_) ?_
    show own_Go p e below s₁ (mkF m 10 #[.val (.ref a1), .val (.int (1 : Int32)), .val (.int (2 : Int32))] []) _
    refine own_st (fun t_ k_ => XS.aloadN X0.here hx rfl (hb hby d1_10) rfl rfl k_) ?_
    show own_Go p e below s₁ (mkF m 11 #[.val (.ref a1), .val (.int (1 : Int32)), .val (.int (2 : Int32))] [(.ref a1)]) _
    refine own_st (fun t_ k_ => XS.iloadN X0.here hx rfl (hb hby d1_11) rfl k_) ?_
    show own_Go p e below s₁ (mkF m 12 #[.val (.ref a1), .val (.int (1 : Int32)), .val (.int (2 : Int32))] [(.int (2 : Int32)), (.ref a1)]) _
    obtain ⟨cl5, Ar5, q5, Sz5, Nn5, Hh5, Gg5⟩ := id pV_a1
    have hin5 : ¬ ((2 : Int32) < 0 ∨ cl5.slots.size ≤ ((2 : Int32)).toNatClampNeg) := inb_of Sz5 ⟨by decide, by decide⟩
    have hat5 : cl5.slots[((2 : Int32)).toNatClampNeg]? = some (.double (FP.i2d x2)) := Has.at Hh5 hin5 rfl
    refine own_st (fun t_ k_ => X0.daload hx (j := (2 : Int32)) (v := (.double (FP.i2d x2))) (by rw [e0]; exact Ar5.1) (State.isArrayOf_alike hZ.alike Ar5.2.1) Ar5.2.2 hin5 hat5 (g := (mkF m 12 #[.val (.ref a1), .val (.int (1 : Int32)), .val (.int (2 : Int32))] [(.int (2 : Int32)), (.ref a1)])) rfl rfl (hb hby d1_12) _ k_) ?_
    show own_Go p e below s₁ (mkF m 13 #[.val (.ref a1), .val (.int (1 : Int32)), .val (.int (2 : Int32))] [(.double (FP.i2d x2))]) _
    refine own_st (fun t_ k_ => XS.aloadN X0.here hx rfl (hb hby d1_13) rfl rfl k_) ?_
    show own_Go p e below s₁ (mkF m 14 #[.val (.ref a1), .val (.int (1 : Int32)), .val (.int (2 : Int32))] [(.ref a1), (.double (FP.i2d x2))]) _
    refine own_st (fun t_ k_ => XS.iloadN X0.here hx rfl (hb hby d1_14) rfl k_) ?_
    show own_Go p e below s₁ (mkF m 15 #[.val (.ref a1), .val (.int (1 : Int32)), .val (.int (2 : Int32))] [(.int (1 : Int32)), (.ref a1), (.double (FP.i2d x2))]) _
    obtain ⟨cl6, Ar6, q6, Sz6, Nn6, Hh6, Gg6⟩ := id pV_a1
    have hin6 : ¬ ((1 : Int32) < 0 ∨ cl6.slots.size ≤ ((1 : Int32)).toNatClampNeg) := inb_of Sz6 ⟨by decide, by decide⟩
    have hat6 : cl6.slots[((1 : Int32)).toNatClampNeg]? = some (.double (FP.i2d x1)) := Has.at Hh6 hin6 rfl
    refine own_st (fun t_ k_ => X0.daload hx (j := (1 : Int32)) (v := (.double (FP.i2d x1))) (by rw [e0]; exact Ar6.1) (State.isArrayOf_alike hZ.alike Ar6.2.1) Ar6.2.2 hin6 hat6 (g := (mkF m 15 #[.val (.ref a1), .val (.int (1 : Int32)), .val (.int (2 : Int32))] [(.int (1 : Int32)), (.ref a1), (.double (FP.i2d x2))])) rfl rfl (hb hby d1_15) _ k_) ?_
    show own_Go p e below s₁ (mkF m 16 #[.val (.ref a1), .val (.int (1 : Int32)), .val (.int (2 : Int32))] [(.double (FP.i2d x1)), (.double (FP.i2d x2))]) _
    refine own_st (fun t_ k_ => XS.dcmpS X0.here hx rfl (hb hby d1_16) rfl (own_dc x2 x1 _) k_) ?_
    show own_Go p e below s₁ (mkF m 17 #[.val (.ref a1), .val (.int (1 : Int32)), .val (.int (2 : Int32))] [(.int (lcmpW x2.toInt64 x1.toInt64))]) _
    by_cases hc_x2_x1 : (0 : Int32) < (lcmpW x2.toInt64 x1.toInt64)
    · skip
      refine own_st (fun t_ k_ => XS.ifNo X0.here hx rfl (hb hby d1_17) rfl ((if0 _ _).trans (tlt hc_x2_x1).2.2.2) k_) ?_
      show own_Go p e below s₁ (mkF m 20 #[.val (.ref a1), .val (.int (1 : Int32)), .val (.int (2 : Int32))] []) _
      have o_hc_x2_x1 := own_gt hc_x2_x1
      refine own_st (fun t_ k_ => XS.iloadN X0.here hx rfl (hb hby d1_20) rfl k_) ?_
      show own_Go p e below s₁ (mkF m 21 #[.val (.ref a1), .val (.int (1 : Int32)), .val (.int (2 : Int32))] [(.int (2 : Int32))]) _
      refine own_st (fun t_ k_ => XS.istoreN X0.here hx rfl (hb hby d1_21) rfl (l' := #[.val (.ref a1), .val (.int (2 : Int32)), .val (.int (2 : Int32))]) rfl k_) ?_
      show own_Go p e below s₁ (mkF m 22 #[.val (.ref a1), .val (.int (2 : Int32)), .val (.int (2 : Int32))] []) _
      refine own_st (fun t_ k_ => XS.iinc X0.here hx rfl (hb hby d1_22) rfl (l' := #[.val (.ref a1), .val (.int (2 : Int32)), .val (.int (3 : Int32))]) rfl k_) ?_
      show own_Go p e below s₁ (mkF m 25 #[.val (.ref a1), .val (.int (2 : Int32)), .val (.int (3 : Int32))] []) _
      refine own_st (fun t_ k_ => XS.goto X0.here hx rfl (pc0 := 25) (pc' := 4) rfl (hb hby d1_25) (by decide) (by decide) k_) ?_
      show own_Go p e below s₁ (mkF m 4 #[.val (.ref a1), .val (.int (2 : Int32)), .val (.int (3 : Int32))] []) _
      refine own_st (fun t_ k_ => XS.iloadN X0.here hx rfl (hb hby d1_4) rfl k_) ?_
      show own_Go p e below s₁ (mkF m 5 #[.val (.ref a1), .val (.int (2 : Int32)), .val (.int (3 : Int32))] [(.int (3 : Int32))]) _
      refine own_st (fun t_ k_ => XS.aloadN X0.here hx rfl (hb hby d1_5) rfl rfl k_) ?_
      show own_Go p e below s₁ (mkF m 6 #[.val (.ref a1), .val (.int (2 : Int32)), .val (.int (3 : Int32))] [(.ref a1), (.int (3 : Int32))]) _
      obtain ⟨cl7, Ar7, q7, Sz7, Nn7, Hh7, Gg7⟩ := id pV_a1
      refine own_st (fun t_ k_ => X0.arraylength hx (by rw [e0]; exact Ar7.1) (State.isArrayOf_alike hZ.alike Ar7.2.1) (g := (mkF m 6 #[.val (.ref a1), .val (.int (2 : Int32)), .val (.int (3 : Int32))] [(.ref a1), (.int (3 : Int32))])) rfl rfl (hb hby d1_6) _ k_) ?_
      rw [len_of Sz7 Nn7]
      show own_Go p e below s₁ (mkF m 7 #[.val (.ref a1), .val (.int (2 : Int32)), .val (.int (3 : Int32))] [(.int (3 : Int32)), (.int (3 : Int32))]) _
      refine own_st (fun t_ k_ => XS.icmpYes X0.here hx rfl (pc0 := 7) (pc' := 28) rfl (hb hby d1_7) rfl (by decide) (by decide) (by decide) k_) ?_
      show own_Go p e below s₁ (mkF m 28 #[.val (.ref a1), .val (.int (2 : Int32)), .val (.int (3 : Int32))] []) _
      refine own_st (fun t_ k_ => XS.iloadN X0.here hx rfl (hb hby d1_28) rfl k_) ?_
      show own_Go p e below s₁ (mkF m 29 #[.val (.ref a1), .val (.int (2 : Int32)), .val (.int (3 : Int32))] [(.int (2 : Int32))]) _
      obtain ⟨fs, hr, hrun, hended, hW, hsame⟩ := X0.leave (v := some (.int (2 : Int32))) (fun h => by rw [Bd.returns] at h; cases h)
      refine own_fin (own_retI X0 hx Bd.returns (hb hby d1_29) hr) ⟨hrun, hended, _, _, rfl, ?_, ⟨_, rfl⟩, hW, hsame.mono (by decide) (by decide)⟩
      show Q_rmHi3 Z a1 kd x0 x1 x2 h0 n0 _ s₁.heap _
      rw [e0]
      exact ⟨(2 : Int32), rfl, N0, rfl, (Or.inr (Or.inr ⟨rfl, (by omega), (by omega)⟩))⟩
    · skip
      refine own_st (fun t_ k_ => XS.ifYes X0.here hx rfl (pc0 := 17) (pc' := 22) rfl (hb hby d1_17) rfl ((if0 _ _).trans (flt hc_x2_x1).2.2.2) (by decide) (by decide) k_) ?_
      show own_Go p e below s₁ (mkF m 22 #[.val (.ref a1), .val (.int (1 : Int32)), .val (.int (2 : Int32))] []) _
      have o_hc_x2_x1 := own_ngt hc_x2_x1
      refine own_st (fun t_ k_ => XS.iinc X0.here hx rfl (hb hby d1_22) rfl (l' := #[.val (.ref a1), .val (.int (1 : Int32)), .val (.int (3 : Int32))]) rfl k_) ?_
      show own_Go p e below s₁ (mkF m 25 #[.val (.ref a1), .val (.int (1 : Int32)), .val (.int (3 : Int32))] []) _
      refine own_st (fun t_ k_ => XS.goto X0.here hx rfl (pc0 := 25) (pc' := 4) rfl (hb hby d1_25) (by decide) (by decide) k_) ?_
      show own_Go p e below s₁ (mkF m 4 #[.val (.ref a1), .val (.int (1 : Int32)), .val (.int (3 : Int32))] []) _
      refine own_st (fun t_ k_ => XS.iloadN X0.here hx rfl (hb hby d1_4) rfl k_) ?_
      show own_Go p e below s₁ (mkF m 5 #[.val (.ref a1), .val (.int (1 : Int32)), .val (.int (3 : Int32))] [(.int (3 : Int32))]) _
      refine own_st (fun t_ k_ => XS.aloadN X0.here hx rfl (hb hby d1_5) rfl rfl k_) ?_
      show own_Go p e below s₁ (mkF m 6 #[.val (.ref a1), .val (.int (1 : Int32)), .val (.int (3 : Int32))] [(.ref a1), (.int (3 : Int32))]) _
      obtain ⟨cl8, Ar8, q8, Sz8, Nn8, Hh8, Gg8⟩ := id pV_a1
      refine own_st (fun t_ k_ => X0.arraylength hx (by rw [e0]; exact Ar8.1) (State.isArrayOf_alike hZ.alike Ar8.2.1) (g := (mkF m 6 #[.val (.ref a1), .val (.int (1 : Int32)), .val (.int (3 : Int32))] [(.ref a1), (.int (3 : Int32))])) rfl rfl (hb hby d1_6) _ k_) ?_
      rw [len_of Sz8 Nn8]
      show own_Go p e below s₁ (mkF m 7 #[.val (.ref a1), .val (.int (1 : Int32)), .val (.int (3 : Int32))] [(.int (3 : Int32)), (.int (3 : Int32))]) _
      refine own_st (fun t_ k_ => XS.icmpYes X0.here hx rfl (pc0 := 7) (pc' := 28) rfl (hb hby d1_7) rfl (by decide) (by decide) (by decide) k_) ?_
      show own_Go p e below s₁ (mkF m 28 #[.val (.ref a1), .val (.int (1 : Int32)), .val (.int (3 : Int32))] []) _
      refine own_st (fun t_ k_ => XS.iloadN X0.here hx rfl (hb hby d1_28) rfl k_) ?_
      show own_Go p e below s₁ (mkF m 29 #[.val (.ref a1), .val (.int (1 : Int32)), .val (.int (3 : Int32))] [(.int (1 : Int32))]) _
      obtain ⟨fs, hr, hrun, hended, hW, hsame⟩ := X0.leave (v := some (.int (1 : Int32))) (fun h => by rw [Bd.returns] at h; cases h)
      refine own_fin (own_retI X0 hx Bd.returns (hb hby d1_29) hr) ⟨hrun, hended, _, _, rfl, ?_, ⟨_, rfl⟩, hW, hsame.mono (by decide) (by decide)⟩
      show Q_rmHi3 Z a1 kd x0 x1 x2 h0 n0 _ s₁.heap _
      rw [e0]
      exact ⟨(1 : Int32), rfl, N0, rfl, (Or.inr (Or.inl ⟨rfl, (by omega), (by omega)⟩))⟩
  · skip
    refine own_st (fun t_ k_ => XS.ifYes X0.here hx rfl (pc0 := 17) (pc' := 22) rfl (hb hby d1_17) rfl ((if0 _ _).trans (flt hc_x1_x0).2.2.2) (by decide) (by decide) k_) ?_
    show own_Go p e below s₁ (mkF m 22 #[.val (.ref a1), .val (.int (0 : Int32)), .val (.int (1 : Int32))] []) _
    have o_hc_x1_x0 := own_ngt hc_x1_x0
    refine own_st (fun t_ k_ => XS.iinc X0.here hx rfl (hb hby d1_22) rfl (l' := #[.val (.ref a1), .val (.int (0 : Int32)), .val (.int (2 : Int32))]) rfl k_) ?_
    show own_Go p e below s₁ (mkF m 25 #[.val (.ref a1), .val (.int (0 : Int32)), .val (.int (2 : Int32))] []) _
    refine own_st (fun t_ k_ => XS.goto X0.here hx rfl (pc0 := 25) (pc' := 4) rfl (hb hby d1_25) (by decide) (by decide) k_) ?_
    show own_Go p e below s₁ (mkF m 4 #[.val (.ref a1), .val (.int (0 : Int32)), .val (.int (2 : Int32))] []) _
    refine own_st (fun t_ k_ => XS.iloadN X0.here hx rfl (hb hby d1_4) rfl k_) ?_
    show own_Go p e below s₁ (mkF m 5 #[.val (.ref a1), .val (.int (0 : Int32)), .val (.int (2 : Int32))] [(.int (2 : Int32))]) _
    refine own_st (fun t_ k_ => XS.aloadN X0.here hx rfl (hb hby d1_5) rfl rfl k_) ?_
    show own_Go p e below s₁ (mkF m 6 #[.val (.ref a1), .val (.int (0 : Int32)), .val (.int (2 : Int32))] [(.ref a1), (.int (2 : Int32))]) _
    obtain ⟨cl9, Ar9, q9, Sz9, Nn9, Hh9, Gg9⟩ := id pV_a1
    refine own_st (fun t_ k_ => X0.arraylength hx (by rw [e0]; exact Ar9.1) (State.isArrayOf_alike hZ.alike Ar9.2.1) (g := (mkF m 6 #[.val (.ref a1), .val (.int (0 : Int32)), .val (.int (2 : Int32))] [(.ref a1), (.int (2 : Int32))])) rfl rfl (hb hby d1_6) _ k_) ?_
    rw [len_of Sz9 Nn9]
    show own_Go p e below s₁ (mkF m 7 #[.val (.ref a1), .val (.int (0 : Int32)), .val (.int (2 : Int32))] [(.int (3 : Int32)), (.int (2 : Int32))]) _
    refine own_st (fun t_ k_ => XS.icmpNo X0.here hx rfl (hb hby d1_7) rfl (by decide) k_) ?_
    show own_Go p e below s₁ (mkF m 10 #[.val (.ref a1), .val (.int (0 : Int32)), .val (.int (2 : Int32))] []) _
    refine own_st (fun t_ k_ => XS.aloadN X0.here hx rfl (hb hby d1_10) rfl rfl k_) ?_
    show own_Go p e below s₁ (mkF m 11 #[.val (.ref a1), .val (.int (0 : Int32)), .val (.int (2 : Int32))] [(.ref a1)]) _
    refine own_st (fun t_ k_ => XS.iloadN X0.here hx rfl (hb hby d1_11) rfl k_) ?_
    show own_Go p e below s₁ (mkF m 12 #[.val (.ref a1), .val (.int (0 : Int32)), .val (.int (2 : Int32))] [(.int (2 : Int32)), (.ref a1)]) _
    obtain ⟨cl10, Ar10, q10, Sz10, Nn10, Hh10, Gg10⟩ := id pV_a1
    have hin10 : ¬ ((2 : Int32) < 0 ∨ cl10.slots.size ≤ ((2 : Int32)).toNatClampNeg) := inb_of Sz10 ⟨by decide, by decide⟩
    have hat10 : cl10.slots[((2 : Int32)).toNatClampNeg]? = some (.double (FP.i2d x2)) := Has.at Hh10 hin10 rfl
    refine own_st (fun t_ k_ => X0.daload hx (j := (2 : Int32)) (v := (.double (FP.i2d x2))) (by rw [e0]; exact Ar10.1) (State.isArrayOf_alike hZ.alike Ar10.2.1) Ar10.2.2 hin10 hat10 (g := (mkF m 12 #[.val (.ref a1), .val (.int (0 : Int32)), .val (.int (2 : Int32))] [(.int (2 : Int32)), (.ref a1)])) rfl rfl (hb hby d1_12) _ k_) ?_
    show own_Go p e below s₁ (mkF m 13 #[.val (.ref a1), .val (.int (0 : Int32)), .val (.int (2 : Int32))] [(.double (FP.i2d x2))]) _
    refine own_st (fun t_ k_ => XS.aloadN X0.here hx rfl (hb hby d1_13) rfl rfl k_) ?_
    show own_Go p e below s₁ (mkF m 14 #[.val (.ref a1), .val (.int (0 : Int32)), .val (.int (2 : Int32))] [(.ref a1), (.double (FP.i2d x2))]) _
    refine own_st (fun t_ k_ => XS.iloadN X0.here hx rfl (hb hby d1_14) rfl k_) ?_
    show own_Go p e below s₁ (mkF m 15 #[.val (.ref a1), .val (.int (0 : Int32)), .val (.int (2 : Int32))] [(.int (0 : Int32)), (.ref a1), (.double (FP.i2d x2))]) _
    obtain ⟨cl11, Ar11, q11, Sz11, Nn11, Hh11, Gg11⟩ := id pV_a1
    have hin11 : ¬ ((0 : Int32) < 0 ∨ cl11.slots.size ≤ ((0 : Int32)).toNatClampNeg) := inb_of Sz11 ⟨by decide, by decide⟩
    have hat11 : cl11.slots[((0 : Int32)).toNatClampNeg]? = some (.double (FP.i2d x0)) := Has.at Hh11 hin11 rfl
    refine own_st (fun t_ k_ => X0.daload hx (j := (0 : Int32)) (v := (.double (FP.i2d x0))) (by rw [e0]; exact Ar11.1) (State.isArrayOf_alike hZ.alike Ar11.2.1) Ar11.2.2 hin11 hat11 (g := (mkF m 15 #[.val (.ref a1), .val (.int (0 : Int32)), .val (.int (2 : Int32))] [(.int (0 : Int32)), (.ref a1), (.double (FP.i2d x2))])) rfl rfl (hb hby d1_15) _ k_) ?_
    show own_Go p e below s₁ (mkF m 16 #[.val (.ref a1), .val (.int (0 : Int32)), .val (.int (2 : Int32))] [(.double (FP.i2d x0)), (.double (FP.i2d x2))]) _
    refine own_st (fun t_ k_ => XS.dcmpS X0.here hx rfl (hb hby d1_16) rfl (own_dc x2 x0 _) k_) ?_
    show own_Go p e below s₁ (mkF m 17 #[.val (.ref a1), .val (.int (0 : Int32)), .val (.int (2 : Int32))] [(.int (lcmpW x2.toInt64 x0.toInt64))]) _
    by_cases hc_x2_x0 : (0 : Int32) < (lcmpW x2.toInt64 x0.toInt64)
    · skip
      refine own_st (fun t_ k_ => XS.ifNo X0.here hx rfl (hb hby d1_17) rfl ((if0 _ _).trans (tlt hc_x2_x0).2.2.2) k_) ?_
      show own_Go p e below s₁ (mkF m 20 #[.val (.ref a1), .val (.int (0 : Int32)), .val (.int (2 : Int32))] []) _
      have o_hc_x2_x0 := own_gt hc_x2_x0
      refine own_st (fun t_ k_ => XS.iloadN X0.here hx rfl (hb hby d1_20) rfl k_) ?_
      show own_Go p e below s₁ (mkF m 21 #[.val (.ref a1), .val (.int (0 : Int32)), .val (.int (2 : Int32))] [(.int (2 : Int32))]) _
      refine own_st (fun t_ k_ => XS.istoreN X0.here hx rfl (hb hby d1_21) rfl (l' := #[.val (.ref a1), .val (.int (2 : Int32)), .val (.int (2 : Int32))]) rfl k_) ?_
      show own_Go p e below s₁ (mkF m 22 #[.val (.ref a1), .val (.int (2 : Int32)), .val (.int (2 : Int32))] []) _
      refine own_st (fun t_ k_ => XS.iinc X0.here hx rfl (hb hby d1_22) rfl (l' := #[.val (.ref a1), .val (.int (2 : Int32)), .val (.int (3 : Int32))]) rfl k_) ?_
      show own_Go p e below s₁ (mkF m 25 #[.val (.ref a1), .val (.int (2 : Int32)), .val (.int (3 : Int32))] []) _
      refine own_st (fun t_ k_ => XS.goto X0.here hx rfl (pc0 := 25) (pc' := 4) rfl (hb hby d1_25) (by decide) (by decide) k_) ?_
      show own_Go p e below s₁ (mkF m 4 #[.val (.ref a1), .val (.int (2 : Int32)), .val (.int (3 : Int32))] []) _
      refine own_st (fun t_ k_ => XS.iloadN X0.here hx rfl (hb hby d1_4) rfl k_) ?_
      show own_Go p e below s₁ (mkF m 5 #[.val (.ref a1), .val (.int (2 : Int32)), .val (.int (3 : Int32))] [(.int (3 : Int32))]) _
      refine own_st (fun t_ k_ => XS.aloadN X0.here hx rfl (hb hby d1_5) rfl rfl k_) ?_
      show own_Go p e below s₁ (mkF m 6 #[.val (.ref a1), .val (.int (2 : Int32)), .val (.int (3 : Int32))] [(.ref a1), (.int (3 : Int32))]) _
      obtain ⟨cl12, Ar12, q12, Sz12, Nn12, Hh12, Gg12⟩ := id pV_a1
      refine own_st (fun t_ k_ => X0.arraylength hx (by rw [e0]; exact Ar12.1) (State.isArrayOf_alike hZ.alike Ar12.2.1) (g := (mkF m 6 #[.val (.ref a1), .val (.int (2 : Int32)), .val (.int (3 : Int32))] [(.ref a1), (.int (3 : Int32))])) rfl rfl (hb hby d1_6) _ k_) ?_
      rw [len_of Sz12 Nn12]
      show own_Go p e below s₁ (mkF m 7 #[.val (.ref a1), .val (.int (2 : Int32)), .val (.int (3 : Int32))] [(.int (3 : Int32)), (.int (3 : Int32))]) _
      refine own_st (fun t_ k_ => XS.icmpYes X0.here hx rfl (pc0 := 7) (pc' := 28) rfl (hb hby d1_7) rfl (by decide) (by decide) (by decide) k_) ?_
      show own_Go p e below s₁ (mkF m 28 #[.val (.ref a1), .val (.int (2 : Int32)), .val (.int (3 : Int32))] []) _
      refine own_st (fun t_ k_ => XS.iloadN X0.here hx rfl (hb hby d1_28) rfl k_) ?_
      show own_Go p e below s₁ (mkF m 29 #[.val (.ref a1), .val (.int (2 : Int32)), .val (.int (3 : Int32))] [(.int (2 : Int32))]) _
      obtain ⟨fs, hr, hrun, hended, hW, hsame⟩ := X0.leave (v := some (.int (2 : Int32))) (fun h => by rw [Bd.returns] at h; cases h)
      refine own_fin (own_retI X0 hx Bd.returns (hb hby d1_29) hr) ⟨hrun, hended, _, _, rfl, ?_, ⟨_, rfl⟩, hW, hsame.mono (by decide) (by decide)⟩
      show Q_rmHi3 Z a1 kd x0 x1 x2 h0 n0 _ s₁.heap _
      rw [e0]
      exact ⟨(2 : Int32), rfl, N0, rfl, (Or.inr (Or.inr ⟨rfl, (by omega), (by omega)⟩))⟩
    · skip
      refine own_st (fun t_ k_ => XS.ifYes X0.here hx rfl (pc0 := 17) (pc' := 22) rfl (hb hby d1_17) rfl ((if0 _ _).trans (flt hc_x2_x0).2.2.2) (by decide) (by decide) k_) ?_
      show own_Go p e below s₁ (mkF m 22 #[.val (.ref a1), .val (.int (0 : Int32)), .val (.int (2 : Int32))] []) _
      have o_hc_x2_x0 := own_ngt hc_x2_x0
      refine own_st (fun t_ k_ => XS.iinc X0.here hx rfl (hb hby d1_22) rfl (l' := #[.val (.ref a1), .val (.int (0 : Int32)), .val (.int (3 : Int32))]) rfl k_) ?_
      show own_Go p e below s₁ (mkF m 25 #[.val (.ref a1), .val (.int (0 : Int32)), .val (.int (3 : Int32))] []) _
      refine own_st (fun t_ k_ => XS.goto X0.here hx rfl (pc0 := 25) (pc' := 4) rfl (hb hby d1_25) (by decide) (by decide) k_) ?_
      show own_Go p e below s₁ (mkF m 4 #[.val (.ref a1), .val (.int (0 : Int32)), .val (.int (3 : Int32))] []) _
      refine own_st (fun t_ k_ => XS.iloadN X0.here hx rfl (hb hby d1_4) rfl k_) ?_
      show own_Go p e below s₁ (mkF m 5 #[.val (.ref a1), .val (.int (0 : Int32)), .val (.int (3 : Int32))] [(.int (3 : Int32))]) _
      refine own_st (fun t_ k_ => XS.aloadN X0.here hx rfl (hb hby d1_5) rfl rfl k_) ?_
      show own_Go p e below s₁ (mkF m 6 #[.val (.ref a1), .val (.int (0 : Int32)), .val (.int (3 : Int32))] [(.ref a1), (.int (3 : Int32))]) _
      obtain ⟨cl13, Ar13, q13, Sz13, Nn13, Hh13, Gg13⟩ := id pV_a1
      refine own_st (fun t_ k_ => X0.arraylength hx (by rw [e0]; exact Ar13.1) (State.isArrayOf_alike hZ.alike Ar13.2.1) (g := (mkF m 6 #[.val (.ref a1), .val (.int (0 : Int32)), .val (.int (3 : Int32))] [(.ref a1), (.int (3 : Int32))])) rfl rfl (hb hby d1_6) _ k_) ?_
      rw [len_of Sz13 Nn13]
      show own_Go p e below s₁ (mkF m 7 #[.val (.ref a1), .val (.int (0 : Int32)), .val (.int (3 : Int32))] [(.int (3 : Int32)), (.int (3 : Int32))]) _
      refine own_st (fun t_ k_ => XS.icmpYes X0.here hx rfl (pc0 := 7) (pc' := 28) rfl (hb hby d1_7) rfl (by decide) (by decide) (by decide) k_) ?_
      show own_Go p e below s₁ (mkF m 28 #[.val (.ref a1), .val (.int (0 : Int32)), .val (.int (3 : Int32))] []) _
      refine own_st (fun t_ k_ => XS.iloadN X0.here hx rfl (hb hby d1_28) rfl k_) ?_
      show own_Go p e below s₁ (mkF m 29 #[.val (.ref a1), .val (.int (0 : Int32)), .val (.int (3 : Int32))] [(.int (0 : Int32))]) _
      obtain ⟨fs, hr, hrun, hended, hW, hsame⟩ := X0.leave (v := some (.int (0 : Int32))) (fun h => by rw [Bd.returns] at h; cases h)
      refine own_fin (own_retI X0 hx Bd.returns (hb hby d1_29) hr) ⟨hrun, hended, _, _, rfl, ?_, ⟨_, rfl⟩, hW, hsame.mono (by decide) (by decide)⟩
      show Q_rmHi3 Z a1 kd x0 x1 x2 h0 n0 _ s₁.heap _
      rw [e0]
      exact ⟨(0 : Int32), rfl, N0, rfl, (Or.inl ⟨rfl, (by omega), (by omega)⟩)⟩
theorem ef_rmHi4 (m : MethodId) (x0 : Addr) : entryFrame m #[(.ref x0)] 3 = mkF m 0 #[.val (.ref x0), .unset, .unset] [] := by first | (simp [entryFrame, mkF, argsToLocals, Value.category]; done) | rfl
def Q_rmHi4 (Z : State) (a1 : Addr) (kd : ClassId) (x0 : Int32) (x1 : Int32) (x2 : Int32) (x3 : Int32) (h0 : Heap) (n0 : Nat) (v : Option Value) (h : Heap) (L : List Loc) : Prop := ∃ r : Int32, v = some (.int r) ∧ Fr n0 L ∧ h = h0 ∧ ((r = (0 : Int32) ∧ x1.toInt ≤ x0.toInt ∧ x2.toInt ≤ x0.toInt ∧ x3.toInt ≤ x0.toInt) ∨ (r = (1 : Int32) ∧ x0.toInt < x1.toInt ∧ x2.toInt ≤ x1.toInt ∧ x3.toInt ≤ x1.toInt) ∨ (r = (2 : Int32) ∧ x0.toInt < x2.toInt ∧ x1.toInt < x2.toInt ∧ x3.toInt ≤ x2.toInt) ∨ (r = (3 : Int32) ∧ x0.toInt < x3.toInt ∧ x1.toInt < x3.toInt ∧ x2.toInt < x3.toInt))
set_option maxRecDepth 65536 in
set_option maxHeartbeats 40000000 in
theorem rmHi4 (l : Launch) (Z : State) (a0 : Array Value) (hw : ∀ d ∈ tables_1, d.before a0 Z = true) (ws : List Jvm.Cond) (a1 : Addr) (kd : ClassId) (x0 : Int32) (x1 : Int32) (x2 : Int32) (x3 : Int32) (h0 : Heap) (n0 : Nat) (Z0 : n0 ≤ h0.size) (pV_a1 : Arv Z h0 a1 kd .double (4 : Int32) [(.double (FP.i2d x0)), (.double (FP.i2d x1)), (.double (FP.i2d x2)), (.double (FP.i2d x3))] (.double (0 : UInt64))) :
    MetFree l (⟨"com/example/spillback/spillback/behaviour/PlanSelector", "highest", "([D)I"⟩ : MethodName) (head1 (Jvm.Cond.code (⟨"com/example/spillback/spillback/behaviour/PlanSelector", "highest", "([D)I"⟩ : MethodName) prog_21_method_10_code 3 (some .int) :: ws) ({ frames := 0, cells := 0, slots := 0, locals := 0 } : Room)) (fun a U => a = #[(.ref a1)] ∧ Z.Warmed39 U.vm ∧ U.heap = h0) (fun _ _ _ _ _ => True) (fun _ U o U' => ∃ v L, o = .returned v ∧ Q_rmHi4 Z a1 kd x0 x1 x2 x3 h0 n0 v U'.heap L ∧ FrameEnd U o U' L ({ frames := 0, cells := 0, slots := 0, locals := 0 } : Room).cells ({ frames := 0, cells := 0, slots := 0, locals := 0 } : Room).slots) := by
  refine MetFree.of_bodySF (plainFor_of_name pn_1) hisR ?_
  intro p e s m args below meth c s₁ Bd hml0 hP hK
  obtain ⟨rfl, hZ, hh⟩ := hP
  have hx := Bd.exec
  have hby := Bd.bytes
  have hml : c.maxLocals = 3 := hml0
  have hown : s.vm.findClass "com/example/spillback/spillback/behaviour/PlanSelector" = some m.cls := findClass_of_methodNamed Bd.named
  have hnm := (name_of_methodNamed Bd.named Bd.method).1
  have X0 : Stand p l e ({ frames := 0, cells := 0, slots := 0, locals := 0 } : Room) s m #[(.ref a1)] below meth c s₁ [] 0 0 := Stand.of_body Bd
  have e0 : s₁.heap = h0 := by rw [← hh, Bd.state]; rfl
  have N0 := Fr.nil n0
  refine own_enter (ef_rmHi4 m a1) ?_
  refine own_st (fun t_ k_ => XS.iconst X0.here hx rfl (hb hby d1_0) k_) ?_
  show own_Go p e below s₁ (mkF m 1 #[.val (.ref a1), .unset, .unset] [(.int (0 : Int32))]) _
  refine own_st (fun t_ k_ => XS.istoreN X0.here hx rfl (hb hby d1_1) rfl (l' := #[.val (.ref a1), .val (.int (0 : Int32)), .unset]) rfl k_) ?_
  show own_Go p e below s₁ (mkF m 2 #[.val (.ref a1), .val (.int (0 : Int32)), .unset] []) _
  refine own_st (fun t_ k_ => XS.iconst X0.here hx rfl (hb hby d1_2) k_) ?_
  show own_Go p e below s₁ (mkF m 3 #[.val (.ref a1), .val (.int (0 : Int32)), .unset] [(.int (1 : Int32))]) _
  refine own_st (fun t_ k_ => XS.istoreN X0.here hx rfl (hb hby d1_3) rfl (l' := #[.val (.ref a1), .val (.int (0 : Int32)), .val (.int (1 : Int32))]) rfl k_) ?_
  show own_Go p e below s₁ (mkF m 4 #[.val (.ref a1), .val (.int (0 : Int32)), .val (.int (1 : Int32))] []) _
  refine own_st (fun t_ k_ => XS.iloadN X0.here hx rfl (hb hby d1_4) rfl k_) ?_
  show own_Go p e below s₁ (mkF m 5 #[.val (.ref a1), .val (.int (0 : Int32)), .val (.int (1 : Int32))] [(.int (1 : Int32))]) _
  refine own_st (fun t_ k_ => XS.aloadN X0.here hx rfl (hb hby d1_5) rfl rfl k_) ?_
  show own_Go p e below s₁ (mkF m 6 #[.val (.ref a1), .val (.int (0 : Int32)), .val (.int (1 : Int32))] [(.ref a1), (.int (1 : Int32))]) _
  obtain ⟨cl1, Ar1, q1, Sz1, Nn1, Hh1, Gg1⟩ := id pV_a1
  refine own_st (fun t_ k_ => X0.arraylength hx (by rw [e0]; exact Ar1.1) (State.isArrayOf_alike hZ.alike Ar1.2.1) (g := (mkF m 6 #[.val (.ref a1), .val (.int (0 : Int32)), .val (.int (1 : Int32))] [(.ref a1), (.int (1 : Int32))])) rfl rfl (hb hby d1_6) _ k_) ?_
  rw [len_of Sz1 Nn1]
  show own_Go p e below s₁ (mkF m 7 #[.val (.ref a1), .val (.int (0 : Int32)), .val (.int (1 : Int32))] [(.int (4 : Int32)), (.int (1 : Int32))]) _
  refine own_st (fun t_ k_ => XS.icmpNo X0.here hx rfl (hb hby d1_7) rfl (by decide) k_) ?_
  show own_Go p e below s₁ (mkF m 10 #[.val (.ref a1), .val (.int (0 : Int32)), .val (.int (1 : Int32))] []) _
  refine own_st (fun t_ k_ => XS.aloadN X0.here hx rfl (hb hby d1_10) rfl rfl k_) ?_
  show own_Go p e below s₁ (mkF m 11 #[.val (.ref a1), .val (.int (0 : Int32)), .val (.int (1 : Int32))] [(.ref a1)]) _
  refine own_st (fun t_ k_ => XS.iloadN X0.here hx rfl (hb hby d1_11) rfl k_) ?_
  show own_Go p e below s₁ (mkF m 12 #[.val (.ref a1), .val (.int (0 : Int32)), .val (.int (1 : Int32))] [(.int (1 : Int32)), (.ref a1)]) _
  obtain ⟨cl2, Ar2, q2, Sz2, Nn2, Hh2, Gg2⟩ := id pV_a1
  have hin2 : ¬ ((1 : Int32) < 0 ∨ cl2.slots.size ≤ ((1 : Int32)).toNatClampNeg) := inb_of Sz2 ⟨by decide, by decide⟩
  have hat2 : cl2.slots[((1 : Int32)).toNatClampNeg]? = some (.double (FP.i2d x1)) := Has.at Hh2 hin2 rfl
  refine own_st (fun t_ k_ => X0.daload hx (j := (1 : Int32)) (v := (.double (FP.i2d x1))) (by rw [e0]; exact Ar2.1) (State.isArrayOf_alike hZ.alike Ar2.2.1) Ar2.2.2 hin2 hat2 (g := (mkF m 12 #[.val (.ref a1), .val (.int (0 : Int32)), .val (.int (1 : Int32))] [(.int (1 : Int32)), (.ref a1)])) rfl rfl (hb hby d1_12) _ k_) ?_
  show own_Go p e below s₁ (mkF m 13 #[.val (.ref a1), .val (.int (0 : Int32)), .val (.int (1 : Int32))] [(.double (FP.i2d x1))]) _
  refine own_st (fun t_ k_ => XS.aloadN X0.here hx rfl (hb hby d1_13) rfl rfl k_) ?_
  show own_Go p e below s₁ (mkF m 14 #[.val (.ref a1), .val (.int (0 : Int32)), .val (.int (1 : Int32))] [(.ref a1), (.double (FP.i2d x1))]) _
  refine own_st (fun t_ k_ => XS.iloadN X0.here hx rfl (hb hby d1_14) rfl k_) ?_
  show own_Go p e below s₁ (mkF m 15 #[.val (.ref a1), .val (.int (0 : Int32)), .val (.int (1 : Int32))] [(.int (0 : Int32)), (.ref a1), (.double (FP.i2d x1))]) _
  obtain ⟨cl3, Ar3, q3, Sz3, Nn3, Hh3, Gg3⟩ := id pV_a1
  have hin3 : ¬ ((0 : Int32) < 0 ∨ cl3.slots.size ≤ ((0 : Int32)).toNatClampNeg) := inb_of Sz3 ⟨by decide, by decide⟩
  have hat3 : cl3.slots[((0 : Int32)).toNatClampNeg]? = some (.double (FP.i2d x0)) := Has.at Hh3 hin3 rfl
  refine own_st (fun t_ k_ => X0.daload hx (j := (0 : Int32)) (v := (.double (FP.i2d x0))) (by rw [e0]; exact Ar3.1) (State.isArrayOf_alike hZ.alike Ar3.2.1) Ar3.2.2 hin3 hat3 (g := (mkF m 15 #[.val (.ref a1), .val (.int (0 : Int32)), .val (.int (1 : Int32))] [(.int (0 : Int32)), (.ref a1), (.double (FP.i2d x1))])) rfl rfl (hb hby d1_15) _ k_) ?_
  show own_Go p e below s₁ (mkF m 16 #[.val (.ref a1), .val (.int (0 : Int32)), .val (.int (1 : Int32))] [(.double (FP.i2d x0)), (.double (FP.i2d x1))]) _
  refine own_st (fun t_ k_ => XS.dcmpS X0.here hx rfl (hb hby d1_16) rfl (own_dc x1 x0 _) k_) ?_
  show own_Go p e below s₁ (mkF m 17 #[.val (.ref a1), .val (.int (0 : Int32)), .val (.int (1 : Int32))] [(.int (lcmpW x1.toInt64 x0.toInt64))]) _
  by_cases hc_x1_x0 : (0 : Int32) < (lcmpW x1.toInt64 x0.toInt64)
  · skip
    refine own_st (fun t_ k_ => XS.ifNo X0.here hx rfl (hb hby d1_17) rfl ((if0 _ _).trans (tlt hc_x1_x0).2.2.2) k_) ?_
    show own_Go p e below s₁ (mkF m 20 #[.val (.ref a1), .val (.int (0 : Int32)), .val (.int (1 : Int32))] []) _
    have o_hc_x1_x0 := own_gt hc_x1_x0
    refine own_st (fun t_ k_ => XS.iloadN X0.here hx rfl (hb hby d1_20) rfl k_) ?_
    show own_Go p e below s₁ (mkF m 21 #[.val (.ref a1), .val (.int (0 : Int32)), .val (.int (1 : Int32))] [(.int (1 : Int32))]) _
    refine own_st (fun t_ k_ => XS.istoreN X0.here hx rfl (hb hby d1_21) rfl (l' := #[.val (.ref a1), .val (.int (1 : Int32)), .val (.int (1 : Int32))]) rfl k_) ?_
    show own_Go p e below s₁ (mkF m 22 #[.val (.ref a1), .val (.int (1 : Int32)), .val (.int (1 : Int32))] []) _
    refine own_st (fun t_ k_ => XS.iinc X0.here hx rfl (hb hby d1_22) rfl (l' := #[.val (.ref a1), .val (.int (1 : Int32)), .val (.int (2 : Int32))]) rfl k_) ?_
    show own_Go p e below s₁ (mkF m 25 #[.val (.ref a1), .val (.int (1 : Int32)), .val (.int (2 : Int32))] []) _
    refine own_st (fun t_ k_ => XS.goto X0.here hx rfl (pc0 := 25) (pc' := 4) rfl (hb hby d1_25) (by decide) (by decide) k_) ?_
    show own_Go p e below s₁ (mkF m 4 #[.val (.ref a1), .val (.int (1 : Int32)), .val (.int (2 : Int32))] []) _
    refine own_st (fun t_ k_ => XS.iloadN X0.here hx rfl (hb hby d1_4) rfl k_) ?_
    show own_Go p e below s₁ (mkF m 5 #[.val (.ref a1), .val (.int (1 : Int32)), .val (.int (2 : Int32))] [(.int (2 : Int32))]) _
    refine own_st (fun t_ k_ => XS.aloadN X0.here hx rfl (hb hby d1_5) rfl rfl k_) ?_
    show own_Go p e below s₁ (mkF m 6 #[.val (.ref a1), .val (.int (1 : Int32)), .val (.int (2 : Int32))] [(.ref a1), (.int (2 : Int32))]) _
    obtain ⟨cl4, Ar4, q4, Sz4, Nn4, Hh4, Gg4⟩ := id pV_a1
    refine own_st (fun t_ k_ => X0.arraylength hx (by rw [e0]; exact Ar4.1) (State.isArrayOf_alike hZ.alike Ar4.2.1) (g := (mkF m 6 #[.val (.ref a1), .val (.int (1 : Int32)), .val (.int (2 : Int32))] [(.ref a1), (.int (2 : Int32))])) rfl rfl (hb hby d1_6) _ k_) ?_
    rw [len_of Sz4 Nn4]
    show own_Go p e below s₁ (mkF m 7 #[.val (.ref a1), .val (.int (1 : Int32)), .val (.int (2 : Int32))] [(.int (4 : Int32)), (.int (2 : Int32))]) _
    refine own_st (fun t_ k_ => XS.icmpNo X0.here hx rfl (hb hby d1_7) rfl (by decide) k_) ?_
    show own_Go p e below s₁ (mkF m 10 #[.val (.ref a1), .val (.int (1 : Int32)), .val (.int (2 : Int32))] []) _
    refine own_st (fun t_ k_ => XS.aloadN X0.here hx rfl (hb hby d1_10) rfl rfl k_) ?_
    show own_Go p e below s₁ (mkF m 11 #[.val (.ref a1), .val (.int (1 : Int32)), .val (.int (2 : Int32))] [(.ref a1)]) _
    refine own_st (fun t_ k_ => XS.iloadN X0.here hx rfl (hb hby d1_11) rfl k_) ?_
    show own_Go p e below s₁ (mkF m 12 #[.val (.ref a1), .val (.int (1 : Int32)), .val (.int (2 : Int32))] [(.int (2 : Int32)), (.ref a1)]) _
    obtain ⟨cl5, Ar5, q5, Sz5, Nn5, Hh5, Gg5⟩ := id pV_a1
    have hin5 : ¬ ((2 : Int32) < 0 ∨ cl5.slots.size ≤ ((2 : Int32)).toNatClampNeg) := inb_of Sz5 ⟨by decide, by decide⟩
    have hat5 : cl5.slots[((2 : Int32)).toNatClampNeg]? = some (.double (FP.i2d x2)) := Has.at Hh5 hin5 rfl
    refine own_st (fun t_ k_ => X0.daload hx (j := (2 : Int32)) (v := (.double (FP.i2d x2))) (by rw [e0]; exact Ar5.1) (State.isArrayOf_alike hZ.alike Ar5.2.1) Ar5.2.2 hin5 hat5 (g := (mkF m 12 #[.val (.ref a1), .val (.int (1 : Int32)), .val (.int (2 : Int32))] [(.int (2 : Int32)), (.ref a1)])) rfl rfl (hb hby d1_12) _ k_) ?_
    show own_Go p e below s₁ (mkF m 13 #[.val (.ref a1), .val (.int (1 : Int32)), .val (.int (2 : Int32))] [(.double (FP.i2d x2))]) _
    refine own_st (fun t_ k_ => XS.aloadN X0.here hx rfl (hb hby d1_13) rfl rfl k_) ?_
    show own_Go p e below s₁ (mkF m 14 #[.val (.ref a1), .val (.int (1 : Int32)), .val (.int (2 : Int32))] [(.ref a1), (.double (FP.i2d x2))]) _
    refine own_st (fun t_ k_ => XS.iloadN X0.here hx rfl (hb hby d1_14) rfl k_) ?_
    show own_Go p e below s₁ (mkF m 15 #[.val (.ref a1), .val (.int (1 : Int32)), .val (.int (2 : Int32))] [(.int (1 : Int32)), (.ref a1), (.double (FP.i2d x2))]) _
    obtain ⟨cl6, Ar6, q6, Sz6, Nn6, Hh6, Gg6⟩ := id pV_a1
    have hin6 : ¬ ((1 : Int32) < 0 ∨ cl6.slots.size ≤ ((1 : Int32)).toNatClampNeg) := inb_of Sz6 ⟨by decide, by decide⟩
    have hat6 : cl6.slots[((1 : Int32)).toNatClampNeg]? = some (.double (FP.i2d x1)) := Has.at Hh6 hin6 rfl
    refine own_st (fun t_ k_ => X0.daload hx (j := (1 : Int32)) (v := (.double (FP.i2d x1))) (by rw [e0]; exact Ar6.1) (State.isArrayOf_alike hZ.alike Ar6.2.1) Ar6.2.2 hin6 hat6 (g := (mkF m 15 #[.val (.ref a1), .val (.int (1 : Int32)), .val (.int (2 : Int32))] [(.int (1 : Int32)), (.ref a1), (.double (FP.i2d x2))])) rfl rfl (hb hby d1_15) _ k_) ?_
    show own_Go p e below s₁ (mkF m 16 #[.val (.ref a1), .val (.int (1 : Int32)), .val (.int (2 : Int32))] [(.double (FP.i2d x1)), (.double (FP.i2d x2))]) _
    refine own_st (fun t_ k_ => XS.dcmpS X0.here hx rfl (hb hby d1_16) rfl (own_dc x2 x1 _) k_) ?_
    show own_Go p e below s₁ (mkF m 17 #[.val (.ref a1), .val (.int (1 : Int32)), .val (.int (2 : Int32))] [(.int (lcmpW x2.toInt64 x1.toInt64))]) _
    by_cases hc_x2_x1 : (0 : Int32) < (lcmpW x2.toInt64 x1.toInt64)
    · skip
      refine own_st (fun t_ k_ => XS.ifNo X0.here hx rfl (hb hby d1_17) rfl ((if0 _ _).trans (tlt hc_x2_x1).2.2.2) k_) ?_
      show own_Go p e below s₁ (mkF m 20 #[.val (.ref a1), .val (.int (1 : Int32)), .val (.int (2 : Int32))] []) _
      have o_hc_x2_x1 := own_gt hc_x2_x1
      refine own_st (fun t_ k_ => XS.iloadN X0.here hx rfl (hb hby d1_20) rfl k_) ?_
      show own_Go p e below s₁ (mkF m 21 #[.val (.ref a1), .val (.int (1 : Int32)), .val (.int (2 : Int32))] [(.int (2 : Int32))]) _
      refine own_st (fun t_ k_ => XS.istoreN X0.here hx rfl (hb hby d1_21) rfl (l' := #[.val (.ref a1), .val (.int (2 : Int32)), .val (.int (2 : Int32))]) rfl k_) ?_
      show own_Go p e below s₁ (mkF m 22 #[.val (.ref a1), .val (.int (2 : Int32)), .val (.int (2 : Int32))] []) _
      refine own_st (fun t_ k_ => XS.iinc X0.here hx rfl (hb hby d1_22) rfl (l' := #[.val (.ref a1), .val (.int (2 : Int32)), .val (.int (3 : Int32))]) rfl k_) ?_
      show own_Go p e below s₁ (mkF m 25 #[.val (.ref a1), .val (.int (2 : Int32)), .val (.int (3 : Int32))] []) _
      refine own_st (fun t_ k_ => XS.goto X0.here hx rfl (pc0 := 25) (pc' := 4) rfl (hb hby d1_25) (by decide) (by decide) k_) ?_
      show own_Go p e below s₁ (mkF m 4 #[.val (.ref a1), .val (.int (2 : Int32)), .val (.int (3 : Int32))] []) _
      refine own_st (fun t_ k_ => XS.iloadN X0.here hx rfl (hb hby d1_4) rfl k_) ?_
      show own_Go p e below s₁ (mkF m 5 #[.val (.ref a1), .val (.int (2 : Int32)), .val (.int (3 : Int32))] [(.int (3 : Int32))]) _
      refine own_st (fun t_ k_ => XS.aloadN X0.here hx rfl (hb hby d1_5) rfl rfl k_) ?_
      show own_Go p e below s₁ (mkF m 6 #[.val (.ref a1), .val (.int (2 : Int32)), .val (.int (3 : Int32))] [(.ref a1), (.int (3 : Int32))]) _
      obtain ⟨cl7, Ar7, q7, Sz7, Nn7, Hh7, Gg7⟩ := id pV_a1
      refine own_st (fun t_ k_ => X0.arraylength hx (by rw [e0]; exact Ar7.1) (State.isArrayOf_alike hZ.alike Ar7.2.1) (g := (mkF m 6 #[.val (.ref a1), .val (.int (2 : Int32)), .val (.int (3 : Int32))] [(.ref a1), (.int (3 : Int32))])) rfl rfl (hb hby d1_6) _ k_) ?_
      rw [len_of Sz7 Nn7]
      show own_Go p e below s₁ (mkF m 7 #[.val (.ref a1), .val (.int (2 : Int32)), .val (.int (3 : Int32))] [(.int (4 : Int32)), (.int (3 : Int32))]) _
      refine own_st (fun t_ k_ => XS.icmpNo X0.here hx rfl (hb hby d1_7) rfl (by decide) k_) ?_
      show own_Go p e below s₁ (mkF m 10 #[.val (.ref a1), .val (.int (2 : Int32)), .val (.int (3 : Int32))] []) _
      refine own_st (fun t_ k_ => XS.aloadN X0.here hx rfl (hb hby d1_10) rfl rfl k_) ?_
      show own_Go p e below s₁ (mkF m 11 #[.val (.ref a1), .val (.int (2 : Int32)), .val (.int (3 : Int32))] [(.ref a1)]) _
      refine own_st (fun t_ k_ => XS.iloadN X0.here hx rfl (hb hby d1_11) rfl k_) ?_
      show own_Go p e below s₁ (mkF m 12 #[.val (.ref a1), .val (.int (2 : Int32)), .val (.int (3 : Int32))] [(.int (3 : Int32)), (.ref a1)]) _
      obtain ⟨cl8, Ar8, q8, Sz8, Nn8, Hh8, Gg8⟩ := id pV_a1
      have hin8 : ¬ ((3 : Int32) < 0 ∨ cl8.slots.size ≤ ((3 : Int32)).toNatClampNeg) := inb_of Sz8 ⟨by decide, by decide⟩
      have hat8 : cl8.slots[((3 : Int32)).toNatClampNeg]? = some (.double (FP.i2d x3)) := Has.at Hh8 hin8 rfl
      refine own_st (fun t_ k_ => X0.daload hx (j := (3 : Int32)) (v := (.double (FP.i2d x3))) (by rw [e0]; exact Ar8.1) (State.isArrayOf_alike hZ.alike Ar8.2.1) Ar8.2.2 hin8 hat8 (g := (mkF m 12 #[.val (.ref a1), .val (.int (2 : Int32)), .val (.int (3 : Int32))] [(.int (3 : Int32)), (.ref a1)])) rfl rfl (hb hby d1_12) _ k_) ?_
      show own_Go p e below s₁ (mkF m 13 #[.val (.ref a1), .val (.int (2 : Int32)), .val (.int (3 : Int32))] [(.double (FP.i2d x3))]) _
      refine own_st (fun t_ k_ => XS.aloadN X0.here hx rfl (hb hby d1_13) rfl rfl k_) ?_
      show own_Go p e below s₁ (mkF m 14 #[.val (.ref a1), .val (.int (2 : Int32)), .val (.int (3 : Int32))] [(.ref a1), (.double (FP.i2d x3))]) _
      refine own_st (fun t_ k_ => XS.iloadN X0.here hx rfl (hb hby d1_14) rfl k_) ?_
      show own_Go p e below s₁ (mkF m 15 #[.val (.ref a1), .val (.int (2 : Int32)), .val (.int (3 : Int32))] [(.int (2 : Int32)), (.ref a1), (.double (FP.i2d x3))]) _
      obtain ⟨cl9, Ar9, q9, Sz9, Nn9, Hh9, Gg9⟩ := id pV_a1
      have hin9 : ¬ ((2 : Int32) < 0 ∨ cl9.slots.size ≤ ((2 : Int32)).toNatClampNeg) := inb_of Sz9 ⟨by decide, by decide⟩
      have hat9 : cl9.slots[((2 : Int32)).toNatClampNeg]? = some (.double (FP.i2d x2)) := Has.at Hh9 hin9 rfl
      refine own_st (fun t_ k_ => X0.daload hx (j := (2 : Int32)) (v := (.double (FP.i2d x2))) (by rw [e0]; exact Ar9.1) (State.isArrayOf_alike hZ.alike Ar9.2.1) Ar9.2.2 hin9 hat9 (g := (mkF m 15 #[.val (.ref a1), .val (.int (2 : Int32)), .val (.int (3 : Int32))] [(.int (2 : Int32)), (.ref a1), (.double (FP.i2d x3))])) rfl rfl (hb hby d1_15) _ k_) ?_
      show own_Go p e below s₁ (mkF m 16 #[.val (.ref a1), .val (.int (2 : Int32)), .val (.int (3 : Int32))] [(.double (FP.i2d x2)), (.double (FP.i2d x3))]) _
      refine own_st (fun t_ k_ => XS.dcmpS X0.here hx rfl (hb hby d1_16) rfl (own_dc x3 x2 _) k_) ?_
      show own_Go p e below s₁ (mkF m 17 #[.val (.ref a1), .val (.int (2 : Int32)), .val (.int (3 : Int32))] [(.int (lcmpW x3.toInt64 x2.toInt64))]) _
      by_cases hc_x3_x2 : (0 : Int32) < (lcmpW x3.toInt64 x2.toInt64)
      · skip
        refine own_st (fun t_ k_ => XS.ifNo X0.here hx rfl (hb hby d1_17) rfl ((if0 _ _).trans (tlt hc_x3_x2).2.2.2) k_) ?_
        show own_Go p e below s₁ (mkF m 20 #[.val (.ref a1), .val (.int (2 : Int32)), .val (.int (3 : Int32))] []) _
        have o_hc_x3_x2 := own_gt hc_x3_x2
        refine own_st (fun t_ k_ => XS.iloadN X0.here hx rfl (hb hby d1_20) rfl k_) ?_
        show own_Go p e below s₁ (mkF m 21 #[.val (.ref a1), .val (.int (2 : Int32)), .val (.int (3 : Int32))] [(.int (3 : Int32))]) _
        refine own_st (fun t_ k_ => XS.istoreN X0.here hx rfl (hb hby d1_21) rfl (l' := #[.val (.ref a1), .val (.int (3 : Int32)), .val (.int (3 : Int32))]) rfl k_) ?_
        show own_Go p e below s₁ (mkF m 22 #[.val (.ref a1), .val (.int (3 : Int32)), .val (.int (3 : Int32))] []) _
        refine own_st (fun t_ k_ => XS.iinc X0.here hx rfl (hb hby d1_22) rfl (l' := #[.val (.ref a1), .val (.int (3 : Int32)), .val (.int (4 : Int32))]) rfl k_) ?_
        show own_Go p e below s₁ (mkF m 25 #[.val (.ref a1), .val (.int (3 : Int32)), .val (.int (4 : Int32))] []) _
        refine own_st (fun t_ k_ => XS.goto X0.here hx rfl (pc0 := 25) (pc' := 4) rfl (hb hby d1_25) (by decide) (by decide) k_) ?_
        show own_Go p e below s₁ (mkF m 4 #[.val (.ref a1), .val (.int (3 : Int32)), .val (.int (4 : Int32))] []) _
        refine own_st (fun t_ k_ => XS.iloadN X0.here hx rfl (hb hby d1_4) rfl k_) ?_
        show own_Go p e below s₁ (mkF m 5 #[.val (.ref a1), .val (.int (3 : Int32)), .val (.int (4 : Int32))] [(.int (4 : Int32))]) _
        refine own_st (fun t_ k_ => XS.aloadN X0.here hx rfl (hb hby d1_5) rfl rfl k_) ?_
        show own_Go p e below s₁ (mkF m 6 #[.val (.ref a1), .val (.int (3 : Int32)), .val (.int (4 : Int32))] [(.ref a1), (.int (4 : Int32))]) _
        obtain ⟨cl10, Ar10, q10, Sz10, Nn10, Hh10, Gg10⟩ := id pV_a1
        refine own_st (fun t_ k_ => X0.arraylength hx (by rw [e0]; exact Ar10.1) (State.isArrayOf_alike hZ.alike Ar10.2.1) (g := (mkF m 6 #[.val (.ref a1), .val (.int (3 : Int32)), .val (.int (4 : Int32))] [(.ref a1), (.int (4 : Int32))])) rfl rfl (hb hby d1_6) _ k_) ?_
        rw [len_of Sz10 Nn10]
        show own_Go p e below s₁ (mkF m 7 #[.val (.ref a1), .val (.int (3 : Int32)), .val (.int (4 : Int32))] [(.int (4 : Int32)), (.int (4 : Int32))]) _
        refine own_st (fun t_ k_ => XS.icmpYes X0.here hx rfl (pc0 := 7) (pc' := 28) rfl (hb hby d1_7) rfl (by decide) (by decide) (by decide) k_) ?_
        show own_Go p e below s₁ (mkF m 28 #[.val (.ref a1), .val (.int (3 : Int32)), .val (.int (4 : Int32))] []) _
        refine own_st (fun t_ k_ => XS.iloadN X0.here hx rfl (hb hby d1_28) rfl k_) ?_
        show own_Go p e below s₁ (mkF m 29 #[.val (.ref a1), .val (.int (3 : Int32)), .val (.int (4 : Int32))] [(.int (3 : Int32))]) _
        obtain ⟨fs, hr, hrun, hended, hW, hsame⟩ := X0.leave (v := some (.int (3 : Int32))) (fun h => by rw [Bd.returns] at h; cases h)
        refine own_fin (own_retI X0 hx Bd.returns (hb hby d1_29) hr) ⟨hrun, hended, _, _, rfl, ?_, ⟨_, rfl⟩, hW, hsame.mono (by decide) (by decide)⟩
        show Q_rmHi4 Z a1 kd x0 x1 x2 x3 h0 n0 _ s₁.heap _
        rw [e0]
        exact ⟨(3 : Int32), rfl, N0, rfl, (Or.inr (Or.inr (Or.inr ⟨rfl, (by omega), (by omega), (by omega)⟩)))⟩
      · skip
        refine own_st (fun t_ k_ => XS.ifYes X0.here hx rfl (pc0 := 17) (pc' := 22) rfl (hb hby d1_17) rfl ((if0 _ _).trans (flt hc_x3_x2).2.2.2) (by decide) (by decide) k_) ?_
        show own_Go p e below s₁ (mkF m 22 #[.val (.ref a1), .val (.int (2 : Int32)), .val (.int (3 : Int32))] []) _
        have o_hc_x3_x2 := own_ngt hc_x3_x2
        refine own_st (fun t_ k_ => XS.iinc X0.here hx rfl (hb hby d1_22) rfl (l' := #[.val (.ref a1), .val (.int (2 : Int32)), .val (.int (4 : Int32))]) rfl k_) ?_
        show own_Go p e below s₁ (mkF m 25 #[.val (.ref a1), .val (.int (2 : Int32)), .val (.int (4 : Int32))] []) _
        refine own_st (fun t_ k_ => XS.goto X0.here hx rfl (pc0 := 25) (pc' := 4) rfl (hb hby d1_25) (by decide) (by decide) k_) ?_
        show own_Go p e below s₁ (mkF m 4 #[.val (.ref a1), .val (.int (2 : Int32)), .val (.int (4 : Int32))] []) _
        refine own_st (fun t_ k_ => XS.iloadN X0.here hx rfl (hb hby d1_4) rfl k_) ?_
        show own_Go p e below s₁ (mkF m 5 #[.val (.ref a1), .val (.int (2 : Int32)), .val (.int (4 : Int32))] [(.int (4 : Int32))]) _
        refine own_st (fun t_ k_ => XS.aloadN X0.here hx rfl (hb hby d1_5) rfl rfl k_) ?_
        show own_Go p e below s₁ (mkF m 6 #[.val (.ref a1), .val (.int (2 : Int32)), .val (.int (4 : Int32))] [(.ref a1), (.int (4 : Int32))]) _
        obtain ⟨cl11, Ar11, q11, Sz11, Nn11, Hh11, Gg11⟩ := id pV_a1
        refine own_st (fun t_ k_ => X0.arraylength hx (by rw [e0]; exact Ar11.1) (State.isArrayOf_alike hZ.alike Ar11.2.1) (g := (mkF m 6 #[.val (.ref a1), .val (.int (2 : Int32)), .val (.int (4 : Int32))] [(.ref a1), (.int (4 : Int32))])) rfl rfl (hb hby d1_6) _ k_) ?_
        rw [len_of Sz11 Nn11]
        show own_Go p e below s₁ (mkF m 7 #[.val (.ref a1), .val (.int (2 : Int32)), .val (.int (4 : Int32))] [(.int (4 : Int32)), (.int (4 : Int32))]) _
        refine own_st (fun t_ k_ => XS.icmpYes X0.here hx rfl (pc0 := 7) (pc' := 28) rfl (hb hby d1_7) rfl (by decide) (by decide) (by decide) k_) ?_
        show own_Go p e below s₁ (mkF m 28 #[.val (.ref a1), .val (.int (2 : Int32)), .val (.int (4 : Int32))] []) _
        refine own_st (fun t_ k_ => XS.iloadN X0.here hx rfl (hb hby d1_28) rfl k_) ?_
        show own_Go p e below s₁ (mkF m 29 #[.val (.ref a1), .val (.int (2 : Int32)), .val (.int (4 : Int32))] [(.int (2 : Int32))]) _
        obtain ⟨fs, hr, hrun, hended, hW, hsame⟩ := X0.leave (v := some (.int (2 : Int32))) (fun h => by rw [Bd.returns] at h; cases h)
        refine own_fin (own_retI X0 hx Bd.returns (hb hby d1_29) hr) ⟨hrun, hended, _, _, rfl, ?_, ⟨_, rfl⟩, hW, hsame.mono (by decide) (by decide)⟩
        show Q_rmHi4 Z a1 kd x0 x1 x2 x3 h0 n0 _ s₁.heap _
        rw [e0]
        exact ⟨(2 : Int32), rfl, N0, rfl, (Or.inr (Or.inr (Or.inl ⟨rfl, (by omega), (by omega), (by omega)⟩)))⟩
    · skip
      refine own_st (fun t_ k_ => XS.ifYes X0.here hx rfl (pc0 := 17) (pc' := 22) rfl (hb hby d1_17) rfl ((if0 _ _).trans (flt hc_x2_x1).2.2.2) (by decide) (by decide) k_) ?_
      show own_Go p e below s₁ (mkF m 22 #[.val (.ref a1), .val (.int (1 : Int32)), .val (.int (2 : Int32))] []) _
      have o_hc_x2_x1 := own_ngt hc_x2_x1
      refine own_st (fun t_ k_ => XS.iinc X0.here hx rfl (hb hby d1_22) rfl (l' := #[.val (.ref a1), .val (.int (1 : Int32)), .val (.int (3 : Int32))]) rfl k_) ?_
      show own_Go p e below s₁ (mkF m 25 #[.val (.ref a1), .val (.int (1 : Int32)), .val (.int (3 : Int32))] []) _
      refine own_st (fun t_ k_ => XS.goto X0.here hx rfl (pc0 := 25) (pc' := 4) rfl (hb hby d1_25) (by decide) (by decide) k_) ?_
      show own_Go p e below s₁ (mkF m 4 #[.val (.ref a1), .val (.int (1 : Int32)), .val (.int (3 : Int32))] []) _
      refine own_st (fun t_ k_ => XS.iloadN X0.here hx rfl (hb hby d1_4) rfl k_) ?_
      show own_Go p e below s₁ (mkF m 5 #[.val (.ref a1), .val (.int (1 : Int32)), .val (.int (3 : Int32))] [(.int (3 : Int32))]) _
      refine own_st (fun t_ k_ => XS.aloadN X0.here hx rfl (hb hby d1_5) rfl rfl k_) ?_
      show own_Go p e below s₁ (mkF m 6 #[.val (.ref a1), .val (.int (1 : Int32)), .val (.int (3 : Int32))] [(.ref a1), (.int (3 : Int32))]) _
      obtain ⟨cl12, Ar12, q12, Sz12, Nn12, Hh12, Gg12⟩ := id pV_a1
      refine own_st (fun t_ k_ => X0.arraylength hx (by rw [e0]; exact Ar12.1) (State.isArrayOf_alike hZ.alike Ar12.2.1) (g := (mkF m 6 #[.val (.ref a1), .val (.int (1 : Int32)), .val (.int (3 : Int32))] [(.ref a1), (.int (3 : Int32))])) rfl rfl (hb hby d1_6) _ k_) ?_
      rw [len_of Sz12 Nn12]
      show own_Go p e below s₁ (mkF m 7 #[.val (.ref a1), .val (.int (1 : Int32)), .val (.int (3 : Int32))] [(.int (4 : Int32)), (.int (3 : Int32))]) _
      refine own_st (fun t_ k_ => XS.icmpNo X0.here hx rfl (hb hby d1_7) rfl (by decide) k_) ?_
      show own_Go p e below s₁ (mkF m 10 #[.val (.ref a1), .val (.int (1 : Int32)), .val (.int (3 : Int32))] []) _
      refine own_st (fun t_ k_ => XS.aloadN X0.here hx rfl (hb hby d1_10) rfl rfl k_) ?_
      show own_Go p e below s₁ (mkF m 11 #[.val (.ref a1), .val (.int (1 : Int32)), .val (.int (3 : Int32))] [(.ref a1)]) _
      refine own_st (fun t_ k_ => XS.iloadN X0.here hx rfl (hb hby d1_11) rfl k_) ?_
      show own_Go p e below s₁ (mkF m 12 #[.val (.ref a1), .val (.int (1 : Int32)), .val (.int (3 : Int32))] [(.int (3 : Int32)), (.ref a1)]) _
      obtain ⟨cl13, Ar13, q13, Sz13, Nn13, Hh13, Gg13⟩ := id pV_a1
      have hin13 : ¬ ((3 : Int32) < 0 ∨ cl13.slots.size ≤ ((3 : Int32)).toNatClampNeg) := inb_of Sz13 ⟨by decide, by decide⟩
      have hat13 : cl13.slots[((3 : Int32)).toNatClampNeg]? = some (.double (FP.i2d x3)) := Has.at Hh13 hin13 rfl
      refine own_st (fun t_ k_ => X0.daload hx (j := (3 : Int32)) (v := (.double (FP.i2d x3))) (by rw [e0]; exact Ar13.1) (State.isArrayOf_alike hZ.alike Ar13.2.1) Ar13.2.2 hin13 hat13 (g := (mkF m 12 #[.val (.ref a1), .val (.int (1 : Int32)), .val (.int (3 : Int32))] [(.int (3 : Int32)), (.ref a1)])) rfl rfl (hb hby d1_12) _ k_) ?_
      show own_Go p e below s₁ (mkF m 13 #[.val (.ref a1), .val (.int (1 : Int32)), .val (.int (3 : Int32))] [(.double (FP.i2d x3))]) _
      refine own_st (fun t_ k_ => XS.aloadN X0.here hx rfl (hb hby d1_13) rfl rfl k_) ?_
      show own_Go p e below s₁ (mkF m 14 #[.val (.ref a1), .val (.int (1 : Int32)), .val (.int (3 : Int32))] [(.ref a1), (.double (FP.i2d x3))]) _
      refine own_st (fun t_ k_ => XS.iloadN X0.here hx rfl (hb hby d1_14) rfl k_) ?_
      show own_Go p e below s₁ (mkF m 15 #[.val (.ref a1), .val (.int (1 : Int32)), .val (.int (3 : Int32))] [(.int (1 : Int32)), (.ref a1), (.double (FP.i2d x3))]) _
      obtain ⟨cl14, Ar14, q14, Sz14, Nn14, Hh14, Gg14⟩ := id pV_a1
      have hin14 : ¬ ((1 : Int32) < 0 ∨ cl14.slots.size ≤ ((1 : Int32)).toNatClampNeg) := inb_of Sz14 ⟨by decide, by decide⟩
      have hat14 : cl14.slots[((1 : Int32)).toNatClampNeg]? = some (.double (FP.i2d x1)) := Has.at Hh14 hin14 rfl
      refine own_st (fun t_ k_ => X0.daload hx (j := (1 : Int32)) (v := (.double (FP.i2d x1))) (by rw [e0]; exact Ar14.1) (State.isArrayOf_alike hZ.alike Ar14.2.1) Ar14.2.2 hin14 hat14 (g := (mkF m 15 #[.val (.ref a1), .val (.int (1 : Int32)), .val (.int (3 : Int32))] [(.int (1 : Int32)), (.ref a1), (.double (FP.i2d x3))])) rfl rfl (hb hby d1_15) _ k_) ?_
      show own_Go p e below s₁ (mkF m 16 #[.val (.ref a1), .val (.int (1 : Int32)), .val (.int (3 : Int32))] [(.double (FP.i2d x1)), (.double (FP.i2d x3))]) _
      refine own_st (fun t_ k_ => XS.dcmpS X0.here hx rfl (hb hby d1_16) rfl (own_dc x3 x1 _) k_) ?_
      show own_Go p e below s₁ (mkF m 17 #[.val (.ref a1), .val (.int (1 : Int32)), .val (.int (3 : Int32))] [(.int (lcmpW x3.toInt64 x1.toInt64))]) _
      by_cases hc_x3_x1 : (0 : Int32) < (lcmpW x3.toInt64 x1.toInt64)
      · skip
        refine own_st (fun t_ k_ => XS.ifNo X0.here hx rfl (hb hby d1_17) rfl ((if0 _ _).trans (tlt hc_x3_x1).2.2.2) k_) ?_
        show own_Go p e below s₁ (mkF m 20 #[.val (.ref a1), .val (.int (1 : Int32)), .val (.int (3 : Int32))] []) _
        have o_hc_x3_x1 := own_gt hc_x3_x1
        refine own_st (fun t_ k_ => XS.iloadN X0.here hx rfl (hb hby d1_20) rfl k_) ?_
        show own_Go p e below s₁ (mkF m 21 #[.val (.ref a1), .val (.int (1 : Int32)), .val (.int (3 : Int32))] [(.int (3 : Int32))]) _
        refine own_st (fun t_ k_ => XS.istoreN X0.here hx rfl (hb hby d1_21) rfl (l' := #[.val (.ref a1), .val (.int (3 : Int32)), .val (.int (3 : Int32))]) rfl k_) ?_
        show own_Go p e below s₁ (mkF m 22 #[.val (.ref a1), .val (.int (3 : Int32)), .val (.int (3 : Int32))] []) _
        refine own_st (fun t_ k_ => XS.iinc X0.here hx rfl (hb hby d1_22) rfl (l' := #[.val (.ref a1), .val (.int (3 : Int32)), .val (.int (4 : Int32))]) rfl k_) ?_
        show own_Go p e below s₁ (mkF m 25 #[.val (.ref a1), .val (.int (3 : Int32)), .val (.int (4 : Int32))] []) _
        refine own_st (fun t_ k_ => XS.goto X0.here hx rfl (pc0 := 25) (pc' := 4) rfl (hb hby d1_25) (by decide) (by decide) k_) ?_
        show own_Go p e below s₁ (mkF m 4 #[.val (.ref a1), .val (.int (3 : Int32)), .val (.int (4 : Int32))] []) _
        refine own_st (fun t_ k_ => XS.iloadN X0.here hx rfl (hb hby d1_4) rfl k_) ?_
        show own_Go p e below s₁ (mkF m 5 #[.val (.ref a1), .val (.int (3 : Int32)), .val (.int (4 : Int32))] [(.int (4 : Int32))]) _
        refine own_st (fun t_ k_ => XS.aloadN X0.here hx rfl (hb hby d1_5) rfl rfl k_) ?_
        show own_Go p e below s₁ (mkF m 6 #[.val (.ref a1), .val (.int (3 : Int32)), .val (.int (4 : Int32))] [(.ref a1), (.int (4 : Int32))]) _
        obtain ⟨cl15, Ar15, q15, Sz15, Nn15, Hh15, Gg15⟩ := id pV_a1
        refine own_st (fun t_ k_ => X0.arraylength hx (by rw [e0]; exact Ar15.1) (State.isArrayOf_alike hZ.alike Ar15.2.1) (g := (mkF m 6 #[.val (.ref a1), .val (.int (3 : Int32)), .val (.int (4 : Int32))] [(.ref a1), (.int (4 : Int32))])) rfl rfl (hb hby d1_6) _ k_) ?_
        rw [len_of Sz15 Nn15]
        show own_Go p e below s₁ (mkF m 7 #[.val (.ref a1), .val (.int (3 : Int32)), .val (.int (4 : Int32))] [(.int (4 : Int32)), (.int (4 : Int32))]) _
        refine own_st (fun t_ k_ => XS.icmpYes X0.here hx rfl (pc0 := 7) (pc' := 28) rfl (hb hby d1_7) rfl (by decide) (by decide) (by decide) k_) ?_
        show own_Go p e below s₁ (mkF m 28 #[.val (.ref a1), .val (.int (3 : Int32)), .val (.int (4 : Int32))] []) _
        refine own_st (fun t_ k_ => XS.iloadN X0.here hx rfl (hb hby d1_28) rfl k_) ?_
        show own_Go p e below s₁ (mkF m 29 #[.val (.ref a1), .val (.int (3 : Int32)), .val (.int (4 : Int32))] [(.int (3 : Int32))]) _
        obtain ⟨fs, hr, hrun, hended, hW, hsame⟩ := X0.leave (v := some (.int (3 : Int32))) (fun h => by rw [Bd.returns] at h; cases h)
        refine own_fin (own_retI X0 hx Bd.returns (hb hby d1_29) hr) ⟨hrun, hended, _, _, rfl, ?_, ⟨_, rfl⟩, hW, hsame.mono (by decide) (by decide)⟩
        show Q_rmHi4 Z a1 kd x0 x1 x2 x3 h0 n0 _ s₁.heap _
        rw [e0]
        exact ⟨(3 : Int32), rfl, N0, rfl, (Or.inr (Or.inr (Or.inr ⟨rfl, (by omega), (by omega), (by omega)⟩)))⟩
      · skip
        refine own_st (fun t_ k_ => XS.ifYes X0.here hx rfl (pc0 := 17) (pc' := 22) rfl (hb hby d1_17) rfl ((if0 _ _).trans (flt hc_x3_x1).2.2.2) (by decide) (by decide) k_) ?_
        show own_Go p e below s₁ (mkF m 22 #[.val (.ref a1), .val (.int (1 : Int32)), .val (.int (3 : Int32))] []) _
        have o_hc_x3_x1 := own_ngt hc_x3_x1
        refine own_st (fun t_ k_ => XS.iinc X0.here hx rfl (hb hby d1_22) rfl (l' := #[.val (.ref a1), .val (.int (1 : Int32)), .val (.int (4 : Int32))]) rfl k_) ?_
        show own_Go p e below s₁ (mkF m 25 #[.val (.ref a1), .val (.int (1 : Int32)), .val (.int (4 : Int32))] []) _
        refine own_st (fun t_ k_ => XS.goto X0.here hx rfl (pc0 := 25) (pc' := 4) rfl (hb hby d1_25) (by decide) (by decide) k_) ?_
        show own_Go p e below s₁ (mkF m 4 #[.val (.ref a1), .val (.int (1 : Int32)), .val (.int (4 : Int32))] []) _
        refine own_st (fun t_ k_ => XS.iloadN X0.here hx rfl (hb hby d1_4) rfl k_) ?_
        show own_Go p e below s₁ (mkF m 5 #[.val (.ref a1), .val (.int (1 : Int32)), .val (.int (4 : Int32))] [(.int (4 : Int32))]) _
        refine own_st (fun t_ k_ => XS.aloadN X0.here hx rfl (hb hby d1_5) rfl rfl k_) ?_
        show own_Go p e below s₁ (mkF m 6 #[.val (.ref a1), .val (.int (1 : Int32)), .val (.int (4 : Int32))] [(.ref a1), (.int (4 : Int32))]) _
        obtain ⟨cl16, Ar16, q16, Sz16, Nn16, Hh16, Gg16⟩ := id pV_a1
        refine own_st (fun t_ k_ => X0.arraylength hx (by rw [e0]; exact Ar16.1) (State.isArrayOf_alike hZ.alike Ar16.2.1) (g := (mkF m 6 #[.val (.ref a1), .val (.int (1 : Int32)), .val (.int (4 : Int32))] [(.ref a1), (.int (4 : Int32))])) rfl rfl (hb hby d1_6) _ k_) ?_
        rw [len_of Sz16 Nn16]
        show own_Go p e below s₁ (mkF m 7 #[.val (.ref a1), .val (.int (1 : Int32)), .val (.int (4 : Int32))] [(.int (4 : Int32)), (.int (4 : Int32))]) _
        refine own_st (fun t_ k_ => XS.icmpYes X0.here hx rfl (pc0 := 7) (pc' := 28) rfl (hb hby d1_7) rfl (by decide) (by decide) (by decide) k_) ?_
        show own_Go p e below s₁ (mkF m 28 #[.val (.ref a1), .val (.int (1 : Int32)), .val (.int (4 : Int32))] []) _
        refine own_st (fun t_ k_ => XS.iloadN X0.here hx rfl (hb hby d1_28) rfl k_) ?_
        show own_Go p e below s₁ (mkF m 29 #[.val (.ref a1), .val (.int (1 : Int32)), .val (.int (4 : Int32))] [(.int (1 : Int32))]) _
        obtain ⟨fs, hr, hrun, hended, hW, hsame⟩ := X0.leave (v := some (.int (1 : Int32))) (fun h => by rw [Bd.returns] at h; cases h)
        refine own_fin (own_retI X0 hx Bd.returns (hb hby d1_29) hr) ⟨hrun, hended, _, _, rfl, ?_, ⟨_, rfl⟩, hW, hsame.mono (by decide) (by decide)⟩
        show Q_rmHi4 Z a1 kd x0 x1 x2 x3 h0 n0 _ s₁.heap _
        rw [e0]
        exact ⟨(1 : Int32), rfl, N0, rfl, (Or.inr (Or.inl ⟨rfl, (by omega), (by omega), (by omega)⟩))⟩
  · skip
    refine own_st (fun t_ k_ => XS.ifYes X0.here hx rfl (pc0 := 17) (pc' := 22) rfl (hb hby d1_17) rfl ((if0 _ _).trans (flt hc_x1_x0).2.2.2) (by decide) (by decide) k_) ?_
    show own_Go p e below s₁ (mkF m 22 #[.val (.ref a1), .val (.int (0 : Int32)), .val (.int (1 : Int32))] []) _
    have o_hc_x1_x0 := own_ngt hc_x1_x0
    refine own_st (fun t_ k_ => XS.iinc X0.here hx rfl (hb hby d1_22) rfl (l' := #[.val (.ref a1), .val (.int (0 : Int32)), .val (.int (2 : Int32))]) rfl k_) ?_
    show own_Go p e below s₁ (mkF m 25 #[.val (.ref a1), .val (.int (0 : Int32)), .val (.int (2 : Int32))] []) _
    refine own_st (fun t_ k_ => XS.goto X0.here hx rfl (pc0 := 25) (pc' := 4) rfl (hb hby d1_25) (by decide) (by decide) k_) ?_
    show own_Go p e below s₁ (mkF m 4 #[.val (.ref a1), .val (.int (0 : Int32)), .val (.int (2 : Int32))] []) _
    refine own_st (fun t_ k_ => XS.iloadN X0.here hx rfl (hb hby d1_4) rfl k_) ?_
    show own_Go p e below s₁ (mkF m 5 #[.val (.ref a1), .val (.int (0 : Int32)), .val (.int (2 : Int32))] [(.int (2 : Int32))]) _
    refine own_st (fun t_ k_ => XS.aloadN X0.here hx rfl (hb hby d1_5) rfl rfl k_) ?_
    show own_Go p e below s₁ (mkF m 6 #[.val (.ref a1), .val (.int (0 : Int32)), .val (.int (2 : Int32))] [(.ref a1), (.int (2 : Int32))]) _
    obtain ⟨cl17, Ar17, q17, Sz17, Nn17, Hh17, Gg17⟩ := id pV_a1
    refine own_st (fun t_ k_ => X0.arraylength hx (by rw [e0]; exact Ar17.1) (State.isArrayOf_alike hZ.alike Ar17.2.1) (g := (mkF m 6 #[.val (.ref a1), .val (.int (0 : Int32)), .val (.int (2 : Int32))] [(.ref a1), (.int (2 : Int32))])) rfl rfl (hb hby d1_6) _ k_) ?_
    rw [len_of Sz17 Nn17]
    show own_Go p e below s₁ (mkF m 7 #[.val (.ref a1), .val (.int (0 : Int32)), .val (.int (2 : Int32))] [(.int (4 : Int32)), (.int (2 : Int32))]) _
    refine own_st (fun t_ k_ => XS.icmpNo X0.here hx rfl (hb hby d1_7) rfl (by decide) k_) ?_
    show own_Go p e below s₁ (mkF m 10 #[.val (.ref a1), .val (.int (0 : Int32)), .val (.int (2 : Int32))] []) _
    refine own_st (fun t_ k_ => XS.aloadN X0.here hx rfl (hb hby d1_10) rfl rfl k_) ?_
    show own_Go p e below s₁ (mkF m 11 #[.val (.ref a1), .val (.int (0 : Int32)), .val (.int (2 : Int32))] [(.ref a1)]) _
    refine own_st (fun t_ k_ => XS.iloadN X0.here hx rfl (hb hby d1_11) rfl k_) ?_
    show own_Go p e below s₁ (mkF m 12 #[.val (.ref a1), .val (.int (0 : Int32)), .val (.int (2 : Int32))] [(.int (2 : Int32)), (.ref a1)]) _
    obtain ⟨cl18, Ar18, q18, Sz18, Nn18, Hh18, Gg18⟩ := id pV_a1
    have hin18 : ¬ ((2 : Int32) < 0 ∨ cl18.slots.size ≤ ((2 : Int32)).toNatClampNeg) := inb_of Sz18 ⟨by decide, by decide⟩
    have hat18 : cl18.slots[((2 : Int32)).toNatClampNeg]? = some (.double (FP.i2d x2)) := Has.at Hh18 hin18 rfl
    refine own_st (fun t_ k_ => X0.daload hx (j := (2 : Int32)) (v := (.double (FP.i2d x2))) (by rw [e0]; exact Ar18.1) (State.isArrayOf_alike hZ.alike Ar18.2.1) Ar18.2.2 hin18 hat18 (g := (mkF m 12 #[.val (.ref a1), .val (.int (0 : Int32)), .val (.int (2 : Int32))] [(.int (2 : Int32)), (.ref a1)])) rfl rfl (hb hby d1_12) _ k_) ?_
    show own_Go p e below s₁ (mkF m 13 #[.val (.ref a1), .val (.int (0 : Int32)), .val (.int (2 : Int32))] [(.double (FP.i2d x2))]) _
    refine own_st (fun t_ k_ => XS.aloadN X0.here hx rfl (hb hby d1_13) rfl rfl k_) ?_
    show own_Go p e below s₁ (mkF m 14 #[.val (.ref a1), .val (.int (0 : Int32)), .val (.int (2 : Int32))] [(.ref a1), (.double (FP.i2d x2))]) _
    refine own_st (fun t_ k_ => XS.iloadN X0.here hx rfl (hb hby d1_14) rfl k_) ?_
    show own_Go p e below s₁ (mkF m 15 #[.val (.ref a1), .val (.int (0 : Int32)), .val (.int (2 : Int32))] [(.int (0 : Int32)), (.ref a1), (.double (FP.i2d x2))]) _
    obtain ⟨cl19, Ar19, q19, Sz19, Nn19, Hh19, Gg19⟩ := id pV_a1
    have hin19 : ¬ ((0 : Int32) < 0 ∨ cl19.slots.size ≤ ((0 : Int32)).toNatClampNeg) := inb_of Sz19 ⟨by decide, by decide⟩
    have hat19 : cl19.slots[((0 : Int32)).toNatClampNeg]? = some (.double (FP.i2d x0)) := Has.at Hh19 hin19 rfl
    refine own_st (fun t_ k_ => X0.daload hx (j := (0 : Int32)) (v := (.double (FP.i2d x0))) (by rw [e0]; exact Ar19.1) (State.isArrayOf_alike hZ.alike Ar19.2.1) Ar19.2.2 hin19 hat19 (g := (mkF m 15 #[.val (.ref a1), .val (.int (0 : Int32)), .val (.int (2 : Int32))] [(.int (0 : Int32)), (.ref a1), (.double (FP.i2d x2))])) rfl rfl (hb hby d1_15) _ k_) ?_
    show own_Go p e below s₁ (mkF m 16 #[.val (.ref a1), .val (.int (0 : Int32)), .val (.int (2 : Int32))] [(.double (FP.i2d x0)), (.double (FP.i2d x2))]) _
    refine own_st (fun t_ k_ => XS.dcmpS X0.here hx rfl (hb hby d1_16) rfl (own_dc x2 x0 _) k_) ?_
    show own_Go p e below s₁ (mkF m 17 #[.val (.ref a1), .val (.int (0 : Int32)), .val (.int (2 : Int32))] [(.int (lcmpW x2.toInt64 x0.toInt64))]) _
    by_cases hc_x2_x0 : (0 : Int32) < (lcmpW x2.toInt64 x0.toInt64)
    · skip
      refine own_st (fun t_ k_ => XS.ifNo X0.here hx rfl (hb hby d1_17) rfl ((if0 _ _).trans (tlt hc_x2_x0).2.2.2) k_) ?_
      show own_Go p e below s₁ (mkF m 20 #[.val (.ref a1), .val (.int (0 : Int32)), .val (.int (2 : Int32))] []) _
      have o_hc_x2_x0 := own_gt hc_x2_x0
      refine own_st (fun t_ k_ => XS.iloadN X0.here hx rfl (hb hby d1_20) rfl k_) ?_
      show own_Go p e below s₁ (mkF m 21 #[.val (.ref a1), .val (.int (0 : Int32)), .val (.int (2 : Int32))] [(.int (2 : Int32))]) _
      refine own_st (fun t_ k_ => XS.istoreN X0.here hx rfl (hb hby d1_21) rfl (l' := #[.val (.ref a1), .val (.int (2 : Int32)), .val (.int (2 : Int32))]) rfl k_) ?_
      show own_Go p e below s₁ (mkF m 22 #[.val (.ref a1), .val (.int (2 : Int32)), .val (.int (2 : Int32))] []) _
      refine own_st (fun t_ k_ => XS.iinc X0.here hx rfl (hb hby d1_22) rfl (l' := #[.val (.ref a1), .val (.int (2 : Int32)), .val (.int (3 : Int32))]) rfl k_) ?_
      show own_Go p e below s₁ (mkF m 25 #[.val (.ref a1), .val (.int (2 : Int32)), .val (.int (3 : Int32))] []) _
      refine own_st (fun t_ k_ => XS.goto X0.here hx rfl (pc0 := 25) (pc' := 4) rfl (hb hby d1_25) (by decide) (by decide) k_) ?_
      show own_Go p e below s₁ (mkF m 4 #[.val (.ref a1), .val (.int (2 : Int32)), .val (.int (3 : Int32))] []) _
      refine own_st (fun t_ k_ => XS.iloadN X0.here hx rfl (hb hby d1_4) rfl k_) ?_
      show own_Go p e below s₁ (mkF m 5 #[.val (.ref a1), .val (.int (2 : Int32)), .val (.int (3 : Int32))] [(.int (3 : Int32))]) _
      refine own_st (fun t_ k_ => XS.aloadN X0.here hx rfl (hb hby d1_5) rfl rfl k_) ?_
      show own_Go p e below s₁ (mkF m 6 #[.val (.ref a1), .val (.int (2 : Int32)), .val (.int (3 : Int32))] [(.ref a1), (.int (3 : Int32))]) _
      obtain ⟨cl20, Ar20, q20, Sz20, Nn20, Hh20, Gg20⟩ := id pV_a1
      refine own_st (fun t_ k_ => X0.arraylength hx (by rw [e0]; exact Ar20.1) (State.isArrayOf_alike hZ.alike Ar20.2.1) (g := (mkF m 6 #[.val (.ref a1), .val (.int (2 : Int32)), .val (.int (3 : Int32))] [(.ref a1), (.int (3 : Int32))])) rfl rfl (hb hby d1_6) _ k_) ?_
      rw [len_of Sz20 Nn20]
      show own_Go p e below s₁ (mkF m 7 #[.val (.ref a1), .val (.int (2 : Int32)), .val (.int (3 : Int32))] [(.int (4 : Int32)), (.int (3 : Int32))]) _
      refine own_st (fun t_ k_ => XS.icmpNo X0.here hx rfl (hb hby d1_7) rfl (by decide) k_) ?_
      show own_Go p e below s₁ (mkF m 10 #[.val (.ref a1), .val (.int (2 : Int32)), .val (.int (3 : Int32))] []) _
      refine own_st (fun t_ k_ => XS.aloadN X0.here hx rfl (hb hby d1_10) rfl rfl k_) ?_
      show own_Go p e below s₁ (mkF m 11 #[.val (.ref a1), .val (.int (2 : Int32)), .val (.int (3 : Int32))] [(.ref a1)]) _
      refine own_st (fun t_ k_ => XS.iloadN X0.here hx rfl (hb hby d1_11) rfl k_) ?_
      show own_Go p e below s₁ (mkF m 12 #[.val (.ref a1), .val (.int (2 : Int32)), .val (.int (3 : Int32))] [(.int (3 : Int32)), (.ref a1)]) _
      obtain ⟨cl21, Ar21, q21, Sz21, Nn21, Hh21, Gg21⟩ := id pV_a1
      have hin21 : ¬ ((3 : Int32) < 0 ∨ cl21.slots.size ≤ ((3 : Int32)).toNatClampNeg) := inb_of Sz21 ⟨by decide, by decide⟩
      have hat21 : cl21.slots[((3 : Int32)).toNatClampNeg]? = some (.double (FP.i2d x3)) := Has.at Hh21 hin21 rfl
      refine own_st (fun t_ k_ => X0.daload hx (j := (3 : Int32)) (v := (.double (FP.i2d x3))) (by rw [e0]; exact Ar21.1) (State.isArrayOf_alike hZ.alike Ar21.2.1) Ar21.2.2 hin21 hat21 (g := (mkF m 12 #[.val (.ref a1), .val (.int (2 : Int32)), .val (.int (3 : Int32))] [(.int (3 : Int32)), (.ref a1)])) rfl rfl (hb hby d1_12) _ k_) ?_
      show own_Go p e below s₁ (mkF m 13 #[.val (.ref a1), .val (.int (2 : Int32)), .val (.int (3 : Int32))] [(.double (FP.i2d x3))]) _
      refine own_st (fun t_ k_ => XS.aloadN X0.here hx rfl (hb hby d1_13) rfl rfl k_) ?_
      show own_Go p e below s₁ (mkF m 14 #[.val (.ref a1), .val (.int (2 : Int32)), .val (.int (3 : Int32))] [(.ref a1), (.double (FP.i2d x3))]) _
      refine own_st (fun t_ k_ => XS.iloadN X0.here hx rfl (hb hby d1_14) rfl k_) ?_
      show own_Go p e below s₁ (mkF m 15 #[.val (.ref a1), .val (.int (2 : Int32)), .val (.int (3 : Int32))] [(.int (2 : Int32)), (.ref a1), (.double (FP.i2d x3))]) _
      obtain ⟨cl22, Ar22, q22, Sz22, Nn22, Hh22, Gg22⟩ := id pV_a1
      have hin22 : ¬ ((2 : Int32) < 0 ∨ cl22.slots.size ≤ ((2 : Int32)).toNatClampNeg) := inb_of Sz22 ⟨by decide, by decide⟩
      have hat22 : cl22.slots[((2 : Int32)).toNatClampNeg]? = some (.double (FP.i2d x2)) := Has.at Hh22 hin22 rfl
      refine own_st (fun t_ k_ => X0.daload hx (j := (2 : Int32)) (v := (.double (FP.i2d x2))) (by rw [e0]; exact Ar22.1) (State.isArrayOf_alike hZ.alike Ar22.2.1) Ar22.2.2 hin22 hat22 (g := (mkF m 15 #[.val (.ref a1), .val (.int (2 : Int32)), .val (.int (3 : Int32))] [(.int (2 : Int32)), (.ref a1), (.double (FP.i2d x3))])) rfl rfl (hb hby d1_15) _ k_) ?_
      show own_Go p e below s₁ (mkF m 16 #[.val (.ref a1), .val (.int (2 : Int32)), .val (.int (3 : Int32))] [(.double (FP.i2d x2)), (.double (FP.i2d x3))]) _
      refine own_st (fun t_ k_ => XS.dcmpS X0.here hx rfl (hb hby d1_16) rfl (own_dc x3 x2 _) k_) ?_
      show own_Go p e below s₁ (mkF m 17 #[.val (.ref a1), .val (.int (2 : Int32)), .val (.int (3 : Int32))] [(.int (lcmpW x3.toInt64 x2.toInt64))]) _
      by_cases hc_x3_x2 : (0 : Int32) < (lcmpW x3.toInt64 x2.toInt64)
      · skip
        refine own_st (fun t_ k_ => XS.ifNo X0.here hx rfl (hb hby d1_17) rfl ((if0 _ _).trans (tlt hc_x3_x2).2.2.2) k_) ?_
        show own_Go p e below s₁ (mkF m 20 #[.val (.ref a1), .val (.int (2 : Int32)), .val (.int (3 : Int32))] []) _
        have o_hc_x3_x2 := own_gt hc_x3_x2
        refine own_st (fun t_ k_ => XS.iloadN X0.here hx rfl (hb hby d1_20) rfl k_) ?_
        show own_Go p e below s₁ (mkF m 21 #[.val (.ref a1), .val (.int (2 : Int32)), .val (.int (3 : Int32))] [(.int (3 : Int32))]) _
        refine own_st (fun t_ k_ => XS.istoreN X0.here hx rfl (hb hby d1_21) rfl (l' := #[.val (.ref a1), .val (.int (3 : Int32)), .val (.int (3 : Int32))]) rfl k_) ?_
        show own_Go p e below s₁ (mkF m 22 #[.val (.ref a1), .val (.int (3 : Int32)), .val (.int (3 : Int32))] []) _
        refine own_st (fun t_ k_ => XS.iinc X0.here hx rfl (hb hby d1_22) rfl (l' := #[.val (.ref a1), .val (.int (3 : Int32)), .val (.int (4 : Int32))]) rfl k_) ?_
        show own_Go p e below s₁ (mkF m 25 #[.val (.ref a1), .val (.int (3 : Int32)), .val (.int (4 : Int32))] []) _
        refine own_st (fun t_ k_ => XS.goto X0.here hx rfl (pc0 := 25) (pc' := 4) rfl (hb hby d1_25) (by decide) (by decide) k_) ?_
        show own_Go p e below s₁ (mkF m 4 #[.val (.ref a1), .val (.int (3 : Int32)), .val (.int (4 : Int32))] []) _
        refine own_st (fun t_ k_ => XS.iloadN X0.here hx rfl (hb hby d1_4) rfl k_) ?_
        show own_Go p e below s₁ (mkF m 5 #[.val (.ref a1), .val (.int (3 : Int32)), .val (.int (4 : Int32))] [(.int (4 : Int32))]) _
        refine own_st (fun t_ k_ => XS.aloadN X0.here hx rfl (hb hby d1_5) rfl rfl k_) ?_
        show own_Go p e below s₁ (mkF m 6 #[.val (.ref a1), .val (.int (3 : Int32)), .val (.int (4 : Int32))] [(.ref a1), (.int (4 : Int32))]) _
        obtain ⟨cl23, Ar23, q23, Sz23, Nn23, Hh23, Gg23⟩ := id pV_a1
        refine own_st (fun t_ k_ => X0.arraylength hx (by rw [e0]; exact Ar23.1) (State.isArrayOf_alike hZ.alike Ar23.2.1) (g := (mkF m 6 #[.val (.ref a1), .val (.int (3 : Int32)), .val (.int (4 : Int32))] [(.ref a1), (.int (4 : Int32))])) rfl rfl (hb hby d1_6) _ k_) ?_
        rw [len_of Sz23 Nn23]
        show own_Go p e below s₁ (mkF m 7 #[.val (.ref a1), .val (.int (3 : Int32)), .val (.int (4 : Int32))] [(.int (4 : Int32)), (.int (4 : Int32))]) _
        refine own_st (fun t_ k_ => XS.icmpYes X0.here hx rfl (pc0 := 7) (pc' := 28) rfl (hb hby d1_7) rfl (by decide) (by decide) (by decide) k_) ?_
        show own_Go p e below s₁ (mkF m 28 #[.val (.ref a1), .val (.int (3 : Int32)), .val (.int (4 : Int32))] []) _
        refine own_st (fun t_ k_ => XS.iloadN X0.here hx rfl (hb hby d1_28) rfl k_) ?_
        show own_Go p e below s₁ (mkF m 29 #[.val (.ref a1), .val (.int (3 : Int32)), .val (.int (4 : Int32))] [(.int (3 : Int32))]) _
        obtain ⟨fs, hr, hrun, hended, hW, hsame⟩ := X0.leave (v := some (.int (3 : Int32))) (fun h => by rw [Bd.returns] at h; cases h)
        refine own_fin (own_retI X0 hx Bd.returns (hb hby d1_29) hr) ⟨hrun, hended, _, _, rfl, ?_, ⟨_, rfl⟩, hW, hsame.mono (by decide) (by decide)⟩
        show Q_rmHi4 Z a1 kd x0 x1 x2 x3 h0 n0 _ s₁.heap _
        rw [e0]
        exact ⟨(3 : Int32), rfl, N0, rfl, (Or.inr (Or.inr (Or.inr ⟨rfl, (by omega), (by omega), (by omega)⟩)))⟩
      · skip
        refine own_st (fun t_ k_ => XS.ifYes X0.here hx rfl (pc0 := 17) (pc' := 22) rfl (hb hby d1_17) rfl ((if0 _ _).trans (flt hc_x3_x2).2.2.2) (by decide) (by decide) k_) ?_
        show own_Go p e below s₁ (mkF m 22 #[.val (.ref a1), .val (.int (2 : Int32)), .val (.int (3 : Int32))] []) _
        have o_hc_x3_x2 := own_ngt hc_x3_x2
        refine own_st (fun t_ k_ => XS.iinc X0.here hx rfl (hb hby d1_22) rfl (l' := #[.val (.ref a1), .val (.int (2 : Int32)), .val (.int (4 : Int32))]) rfl k_) ?_
        show own_Go p e below s₁ (mkF m 25 #[.val (.ref a1), .val (.int (2 : Int32)), .val (.int (4 : Int32))] []) _
        refine own_st (fun t_ k_ => XS.goto X0.here hx rfl (pc0 := 25) (pc' := 4) rfl (hb hby d1_25) (by decide) (by decide) k_) ?_
        show own_Go p e below s₁ (mkF m 4 #[.val (.ref a1), .val (.int (2 : Int32)), .val (.int (4 : Int32))] []) _
        refine own_st (fun t_ k_ => XS.iloadN X0.here hx rfl (hb hby d1_4) rfl k_) ?_
        show own_Go p e below s₁ (mkF m 5 #[.val (.ref a1), .val (.int (2 : Int32)), .val (.int (4 : Int32))] [(.int (4 : Int32))]) _
        refine own_st (fun t_ k_ => XS.aloadN X0.here hx rfl (hb hby d1_5) rfl rfl k_) ?_
        show own_Go p e below s₁ (mkF m 6 #[.val (.ref a1), .val (.int (2 : Int32)), .val (.int (4 : Int32))] [(.ref a1), (.int (4 : Int32))]) _
        obtain ⟨cl24, Ar24, q24, Sz24, Nn24, Hh24, Gg24⟩ := id pV_a1
        refine own_st (fun t_ k_ => X0.arraylength hx (by rw [e0]; exact Ar24.1) (State.isArrayOf_alike hZ.alike Ar24.2.1) (g := (mkF m 6 #[.val (.ref a1), .val (.int (2 : Int32)), .val (.int (4 : Int32))] [(.ref a1), (.int (4 : Int32))])) rfl rfl (hb hby d1_6) _ k_) ?_
        rw [len_of Sz24 Nn24]
        show own_Go p e below s₁ (mkF m 7 #[.val (.ref a1), .val (.int (2 : Int32)), .val (.int (4 : Int32))] [(.int (4 : Int32)), (.int (4 : Int32))]) _
        refine own_st (fun t_ k_ => XS.icmpYes X0.here hx rfl (pc0 := 7) (pc' := 28) rfl (hb hby d1_7) rfl (by decide) (by decide) (by decide) k_) ?_
        show own_Go p e below s₁ (mkF m 28 #[.val (.ref a1), .val (.int (2 : Int32)), .val (.int (4 : Int32))] []) _
        refine own_st (fun t_ k_ => XS.iloadN X0.here hx rfl (hb hby d1_28) rfl k_) ?_
        show own_Go p e below s₁ (mkF m 29 #[.val (.ref a1), .val (.int (2 : Int32)), .val (.int (4 : Int32))] [(.int (2 : Int32))]) _
        obtain ⟨fs, hr, hrun, hended, hW, hsame⟩ := X0.leave (v := some (.int (2 : Int32))) (fun h => by rw [Bd.returns] at h; cases h)
        refine own_fin (own_retI X0 hx Bd.returns (hb hby d1_29) hr) ⟨hrun, hended, _, _, rfl, ?_, ⟨_, rfl⟩, hW, hsame.mono (by decide) (by decide)⟩
        show Q_rmHi4 Z a1 kd x0 x1 x2 x3 h0 n0 _ s₁.heap _
        rw [e0]
        exact ⟨(2 : Int32), rfl, N0, rfl, (Or.inr (Or.inr (Or.inl ⟨rfl, (by omega), (by omega), (by omega)⟩)))⟩
    · skip
      refine own_st (fun t_ k_ => XS.ifYes X0.here hx rfl (pc0 := 17) (pc' := 22) rfl (hb hby d1_17) rfl ((if0 _ _).trans (flt hc_x2_x0).2.2.2) (by decide) (by decide) k_) ?_
      show own_Go p e below s₁ (mkF m 22 #[.val (.ref a1), .val (.int (0 : Int32)), .val (.int (2 : Int32))] []) _
      have o_hc_x2_x0 := own_ngt hc_x2_x0
      refine own_st (fun t_ k_ => XS.iinc X0.here hx rfl (hb hby d1_22) rfl (l' := #[.val (.ref a1), .val (.int (0 : Int32)), .val (.int (3 : Int32))]) rfl k_) ?_
      show own_Go p e below s₁ (mkF m 25 #[.val (.ref a1), .val (.int (0 : Int32)), .val (.int (3 : Int32))] []) _
      refine own_st (fun t_ k_ => XS.goto X0.here hx rfl (pc0 := 25) (pc' := 4) rfl (hb hby d1_25) (by decide) (by decide) k_) ?_
      show own_Go p e below s₁ (mkF m 4 #[.val (.ref a1), .val (.int (0 : Int32)), .val (.int (3 : Int32))] []) _
      refine own_st (fun t_ k_ => XS.iloadN X0.here hx rfl (hb hby d1_4) rfl k_) ?_
      show own_Go p e below s₁ (mkF m 5 #[.val (.ref a1), .val (.int (0 : Int32)), .val (.int (3 : Int32))] [(.int (3 : Int32))]) _
      refine own_st (fun t_ k_ => XS.aloadN X0.here hx rfl (hb hby d1_5) rfl rfl k_) ?_
      show own_Go p e below s₁ (mkF m 6 #[.val (.ref a1), .val (.int (0 : Int32)), .val (.int (3 : Int32))] [(.ref a1), (.int (3 : Int32))]) _
      obtain ⟨cl25, Ar25, q25, Sz25, Nn25, Hh25, Gg25⟩ := id pV_a1
      refine own_st (fun t_ k_ => X0.arraylength hx (by rw [e0]; exact Ar25.1) (State.isArrayOf_alike hZ.alike Ar25.2.1) (g := (mkF m 6 #[.val (.ref a1), .val (.int (0 : Int32)), .val (.int (3 : Int32))] [(.ref a1), (.int (3 : Int32))])) rfl rfl (hb hby d1_6) _ k_) ?_
      rw [len_of Sz25 Nn25]
      show own_Go p e below s₁ (mkF m 7 #[.val (.ref a1), .val (.int (0 : Int32)), .val (.int (3 : Int32))] [(.int (4 : Int32)), (.int (3 : Int32))]) _
      refine own_st (fun t_ k_ => XS.icmpNo X0.here hx rfl (hb hby d1_7) rfl (by decide) k_) ?_
      show own_Go p e below s₁ (mkF m 10 #[.val (.ref a1), .val (.int (0 : Int32)), .val (.int (3 : Int32))] []) _
      refine own_st (fun t_ k_ => XS.aloadN X0.here hx rfl (hb hby d1_10) rfl rfl k_) ?_
      show own_Go p e below s₁ (mkF m 11 #[.val (.ref a1), .val (.int (0 : Int32)), .val (.int (3 : Int32))] [(.ref a1)]) _
      refine own_st (fun t_ k_ => XS.iloadN X0.here hx rfl (hb hby d1_11) rfl k_) ?_
      show own_Go p e below s₁ (mkF m 12 #[.val (.ref a1), .val (.int (0 : Int32)), .val (.int (3 : Int32))] [(.int (3 : Int32)), (.ref a1)]) _
      obtain ⟨cl26, Ar26, q26, Sz26, Nn26, Hh26, Gg26⟩ := id pV_a1
      have hin26 : ¬ ((3 : Int32) < 0 ∨ cl26.slots.size ≤ ((3 : Int32)).toNatClampNeg) := inb_of Sz26 ⟨by decide, by decide⟩
      have hat26 : cl26.slots[((3 : Int32)).toNatClampNeg]? = some (.double (FP.i2d x3)) := Has.at Hh26 hin26 rfl
      refine own_st (fun t_ k_ => X0.daload hx (j := (3 : Int32)) (v := (.double (FP.i2d x3))) (by rw [e0]; exact Ar26.1) (State.isArrayOf_alike hZ.alike Ar26.2.1) Ar26.2.2 hin26 hat26 (g := (mkF m 12 #[.val (.ref a1), .val (.int (0 : Int32)), .val (.int (3 : Int32))] [(.int (3 : Int32)), (.ref a1)])) rfl rfl (hb hby d1_12) _ k_) ?_
      show own_Go p e below s₁ (mkF m 13 #[.val (.ref a1), .val (.int (0 : Int32)), .val (.int (3 : Int32))] [(.double (FP.i2d x3))]) _
      refine own_st (fun t_ k_ => XS.aloadN X0.here hx rfl (hb hby d1_13) rfl rfl k_) ?_
      show own_Go p e below s₁ (mkF m 14 #[.val (.ref a1), .val (.int (0 : Int32)), .val (.int (3 : Int32))] [(.ref a1), (.double (FP.i2d x3))]) _
      refine own_st (fun t_ k_ => XS.iloadN X0.here hx rfl (hb hby d1_14) rfl k_) ?_
      show own_Go p e below s₁ (mkF m 15 #[.val (.ref a1), .val (.int (0 : Int32)), .val (.int (3 : Int32))] [(.int (0 : Int32)), (.ref a1), (.double (FP.i2d x3))]) _
      obtain ⟨cl27, Ar27, q27, Sz27, Nn27, Hh27, Gg27⟩ := id pV_a1
      have hin27 : ¬ ((0 : Int32) < 0 ∨ cl27.slots.size ≤ ((0 : Int32)).toNatClampNeg) := inb_of Sz27 ⟨by decide, by decide⟩
      have hat27 : cl27.slots[((0 : Int32)).toNatClampNeg]? = some (.double (FP.i2d x0)) := Has.at Hh27 hin27 rfl
      refine own_st (fun t_ k_ => X0.daload hx (j := (0 : Int32)) (v := (.double (FP.i2d x0))) (by rw [e0]; exact Ar27.1) (State.isArrayOf_alike hZ.alike Ar27.2.1) Ar27.2.2 hin27 hat27 (g := (mkF m 15 #[.val (.ref a1), .val (.int (0 : Int32)), .val (.int (3 : Int32))] [(.int (0 : Int32)), (.ref a1), (.double (FP.i2d x3))])) rfl rfl (hb hby d1_15) _ k_) ?_
      show own_Go p e below s₁ (mkF m 16 #[.val (.ref a1), .val (.int (0 : Int32)), .val (.int (3 : Int32))] [(.double (FP.i2d x0)), (.double (FP.i2d x3))]) _
      refine own_st (fun t_ k_ => XS.dcmpS X0.here hx rfl (hb hby d1_16) rfl (own_dc x3 x0 _) k_) ?_
      show own_Go p e below s₁ (mkF m 17 #[.val (.ref a1), .val (.int (0 : Int32)), .val (.int (3 : Int32))] [(.int (lcmpW x3.toInt64 x0.toInt64))]) _
      by_cases hc_x3_x0 : (0 : Int32) < (lcmpW x3.toInt64 x0.toInt64)
      · skip
        refine own_st (fun t_ k_ => XS.ifNo X0.here hx rfl (hb hby d1_17) rfl ((if0 _ _).trans (tlt hc_x3_x0).2.2.2) k_) ?_
        show own_Go p e below s₁ (mkF m 20 #[.val (.ref a1), .val (.int (0 : Int32)), .val (.int (3 : Int32))] []) _
        have o_hc_x3_x0 := own_gt hc_x3_x0
        refine own_st (fun t_ k_ => XS.iloadN X0.here hx rfl (hb hby d1_20) rfl k_) ?_
        show own_Go p e below s₁ (mkF m 21 #[.val (.ref a1), .val (.int (0 : Int32)), .val (.int (3 : Int32))] [(.int (3 : Int32))]) _
        refine own_st (fun t_ k_ => XS.istoreN X0.here hx rfl (hb hby d1_21) rfl (l' := #[.val (.ref a1), .val (.int (3 : Int32)), .val (.int (3 : Int32))]) rfl k_) ?_
        show own_Go p e below s₁ (mkF m 22 #[.val (.ref a1), .val (.int (3 : Int32)), .val (.int (3 : Int32))] []) _
        refine own_st (fun t_ k_ => XS.iinc X0.here hx rfl (hb hby d1_22) rfl (l' := #[.val (.ref a1), .val (.int (3 : Int32)), .val (.int (4 : Int32))]) rfl k_) ?_
        show own_Go p e below s₁ (mkF m 25 #[.val (.ref a1), .val (.int (3 : Int32)), .val (.int (4 : Int32))] []) _
        refine own_st (fun t_ k_ => XS.goto X0.here hx rfl (pc0 := 25) (pc' := 4) rfl (hb hby d1_25) (by decide) (by decide) k_) ?_
        show own_Go p e below s₁ (mkF m 4 #[.val (.ref a1), .val (.int (3 : Int32)), .val (.int (4 : Int32))] []) _
        refine own_st (fun t_ k_ => XS.iloadN X0.here hx rfl (hb hby d1_4) rfl k_) ?_
        show own_Go p e below s₁ (mkF m 5 #[.val (.ref a1), .val (.int (3 : Int32)), .val (.int (4 : Int32))] [(.int (4 : Int32))]) _
        refine own_st (fun t_ k_ => XS.aloadN X0.here hx rfl (hb hby d1_5) rfl rfl k_) ?_
        show own_Go p e below s₁ (mkF m 6 #[.val (.ref a1), .val (.int (3 : Int32)), .val (.int (4 : Int32))] [(.ref a1), (.int (4 : Int32))]) _
        obtain ⟨cl28, Ar28, q28, Sz28, Nn28, Hh28, Gg28⟩ := id pV_a1
        refine own_st (fun t_ k_ => X0.arraylength hx (by rw [e0]; exact Ar28.1) (State.isArrayOf_alike hZ.alike Ar28.2.1) (g := (mkF m 6 #[.val (.ref a1), .val (.int (3 : Int32)), .val (.int (4 : Int32))] [(.ref a1), (.int (4 : Int32))])) rfl rfl (hb hby d1_6) _ k_) ?_
        rw [len_of Sz28 Nn28]
        show own_Go p e below s₁ (mkF m 7 #[.val (.ref a1), .val (.int (3 : Int32)), .val (.int (4 : Int32))] [(.int (4 : Int32)), (.int (4 : Int32))]) _
        refine own_st (fun t_ k_ => XS.icmpYes X0.here hx rfl (pc0 := 7) (pc' := 28) rfl (hb hby d1_7) rfl (by decide) (by decide) (by decide) k_) ?_
        show own_Go p e below s₁ (mkF m 28 #[.val (.ref a1), .val (.int (3 : Int32)), .val (.int (4 : Int32))] []) _
        refine own_st (fun t_ k_ => XS.iloadN X0.here hx rfl (hb hby d1_28) rfl k_) ?_
        show own_Go p e below s₁ (mkF m 29 #[.val (.ref a1), .val (.int (3 : Int32)), .val (.int (4 : Int32))] [(.int (3 : Int32))]) _
        obtain ⟨fs, hr, hrun, hended, hW, hsame⟩ := X0.leave (v := some (.int (3 : Int32))) (fun h => by rw [Bd.returns] at h; cases h)
        refine own_fin (own_retI X0 hx Bd.returns (hb hby d1_29) hr) ⟨hrun, hended, _, _, rfl, ?_, ⟨_, rfl⟩, hW, hsame.mono (by decide) (by decide)⟩
        show Q_rmHi4 Z a1 kd x0 x1 x2 x3 h0 n0 _ s₁.heap _
        rw [e0]
        exact ⟨(3 : Int32), rfl, N0, rfl, (Or.inr (Or.inr (Or.inr ⟨rfl, (by omega), (by omega), (by omega)⟩)))⟩
      · skip
        refine own_st (fun t_ k_ => XS.ifYes X0.here hx rfl (pc0 := 17) (pc' := 22) rfl (hb hby d1_17) rfl ((if0 _ _).trans (flt hc_x3_x0).2.2.2) (by decide) (by decide) k_) ?_
        show own_Go p e below s₁ (mkF m 22 #[.val (.ref a1), .val (.int (0 : Int32)), .val (.int (3 : Int32))] []) _
        have o_hc_x3_x0 := own_ngt hc_x3_x0
        refine own_st (fun t_ k_ => XS.iinc X0.here hx rfl (hb hby d1_22) rfl (l' := #[.val (.ref a1), .val (.int (0 : Int32)), .val (.int (4 : Int32))]) rfl k_) ?_
        show own_Go p e below s₁ (mkF m 25 #[.val (.ref a1), .val (.int (0 : Int32)), .val (.int (4 : Int32))] []) _
        refine own_st (fun t_ k_ => XS.goto X0.here hx rfl (pc0 := 25) (pc' := 4) rfl (hb hby d1_25) (by decide) (by decide) k_) ?_
        show own_Go p e below s₁ (mkF m 4 #[.val (.ref a1), .val (.int (0 : Int32)), .val (.int (4 : Int32))] []) _
        refine own_st (fun t_ k_ => XS.iloadN X0.here hx rfl (hb hby d1_4) rfl k_) ?_
        show own_Go p e below s₁ (mkF m 5 #[.val (.ref a1), .val (.int (0 : Int32)), .val (.int (4 : Int32))] [(.int (4 : Int32))]) _
        refine own_st (fun t_ k_ => XS.aloadN X0.here hx rfl (hb hby d1_5) rfl rfl k_) ?_
        show own_Go p e below s₁ (mkF m 6 #[.val (.ref a1), .val (.int (0 : Int32)), .val (.int (4 : Int32))] [(.ref a1), (.int (4 : Int32))]) _
        obtain ⟨cl29, Ar29, q29, Sz29, Nn29, Hh29, Gg29⟩ := id pV_a1
        refine own_st (fun t_ k_ => X0.arraylength hx (by rw [e0]; exact Ar29.1) (State.isArrayOf_alike hZ.alike Ar29.2.1) (g := (mkF m 6 #[.val (.ref a1), .val (.int (0 : Int32)), .val (.int (4 : Int32))] [(.ref a1), (.int (4 : Int32))])) rfl rfl (hb hby d1_6) _ k_) ?_
        rw [len_of Sz29 Nn29]
        show own_Go p e below s₁ (mkF m 7 #[.val (.ref a1), .val (.int (0 : Int32)), .val (.int (4 : Int32))] [(.int (4 : Int32)), (.int (4 : Int32))]) _
        refine own_st (fun t_ k_ => XS.icmpYes X0.here hx rfl (pc0 := 7) (pc' := 28) rfl (hb hby d1_7) rfl (by decide) (by decide) (by decide) k_) ?_
        show own_Go p e below s₁ (mkF m 28 #[.val (.ref a1), .val (.int (0 : Int32)), .val (.int (4 : Int32))] []) _
        refine own_st (fun t_ k_ => XS.iloadN X0.here hx rfl (hb hby d1_28) rfl k_) ?_
        show own_Go p e below s₁ (mkF m 29 #[.val (.ref a1), .val (.int (0 : Int32)), .val (.int (4 : Int32))] [(.int (0 : Int32))]) _
        obtain ⟨fs, hr, hrun, hended, hW, hsame⟩ := X0.leave (v := some (.int (0 : Int32))) (fun h => by rw [Bd.returns] at h; cases h)
        refine own_fin (own_retI X0 hx Bd.returns (hb hby d1_29) hr) ⟨hrun, hended, _, _, rfl, ?_, ⟨_, rfl⟩, hW, hsame.mono (by decide) (by decide)⟩
        show Q_rmHi4 Z a1 kd x0 x1 x2 x3 h0 n0 _ s₁.heap _
        rw [e0]
        exact ⟨(0 : Int32), rfl, N0, rfl, (Or.inl ⟨rfl, (by omega), (by omega), (by omega)⟩)⟩
theorem d2_0 : decode method_3_code 0 = .ok (.iload_n 1, 1) := by decide +kernel
theorem d2_1 : decode method_3_code 1 = .ok (.iload_n 2, 1) := by decide +kernel
theorem d2_2 : decode method_3_code 2 = .ok (.if_icmp .lt 5, 3) := by decide +kernel
theorem d2_7 : decode method_3_code 7 = .ok (.aload_n 0, 1) := by decide +kernel
theorem d2_8 : decode method_3_code 8 = .ok (.iload_n 1, 1) := by decide +kernel
theorem d2_9 : decode method_3_code 9 = .ok (.iaload, 1) := by decide +kernel
theorem d2_10 : decode method_3_code 10 = .ok (.iload 4, 2) := by decide +kernel
theorem d2_12 : decode method_3_code 12 = .ok (.if_icmp .le 5, 3) := by decide +kernel
theorem d2_17 : decode method_3_code 17 = .ok (.iload_n 1, 1) := by decide +kernel
theorem d2_18 : decode method_3_code 18 = .ok (.iload_n 3, 1) := by decide +kernel
theorem d2_19 : decode method_3_code 19 = .ok (.if_icmp .ge 13, 3) := by decide +kernel
theorem d2_32 : decode method_3_code 32 = .ok (.iconst 1, 1) := by decide +kernel
theorem d2_33 : decode method_3_code 33 = .ok (.ireturn, 1) := by decide +kernel
theorem pn_2 : plainName "com/example/spillback/spillback/behaviour/PlanSelectorHighestPinLaw" = true := by first | (simp [plainName, overriddenIn]; done) | decide +kernel
theorem ef_rmOk_0_1_0 (m : MethodId) (x0 : Addr) (x1 : Int32) (x2 : Int32) (x3 : Int32) (x4 : Int32) : entryFrame m #[(.ref x0), (.int x1), (.int x2), (.int x3), (.int x4)] 5 = mkF m 0 #[.val (.ref x0), .val (.int x1), .val (.int x2), .val (.int x3), .val (.int x4)] [] := by first | (simp [entryFrame, mkF, argsToLocals, Value.category]; done) | rfl
def Q_rmOk_0_1_0 (Z : State) (a1 : Addr) (ki : ClassId) (x0 : Int32) (x1 : Int32) (x2 : Int32) (x3 : Int32) (h0 : Heap) (n0 : Nat) (v : Option Value) (h : Heap) (L : List Loc) : Prop := v = some (.int (1 : Int32)) ∧ Fr n0 L ∧ h = h0
set_option maxRecDepth 65536 in
set_option maxHeartbeats 40000000 in
theorem rmOk_0_1_0 (l : Launch) (Z : State) (a0 : Array Value) (hw : ∀ d ∈ tables_1, d.before a0 Z = true) (ws : List Jvm.Cond) (a1 : Addr) (ki : ClassId) (x0 : Int32) (x1 : Int32) (x2 : Int32) (x3 : Int32) (h0 : Heap) (n0 : Nat) (Z0 : n0 ≤ h0.size) (pV_a1 : Arv Z h0 a1 ki .int (4 : Int32) [(.int x0), (.int x1), (.int x2), (.int x3)] (.int (0 : Int32))) :
    MetFree l (⟨"com/example/spillback/spillback/behaviour/PlanSelectorHighestPinLaw", "ok", "([IIIII)Z"⟩ : MethodName) (head1 (Jvm.Cond.code (⟨"com/example/spillback/spillback/behaviour/PlanSelectorHighestPinLaw", "ok", "([IIIII)Z"⟩ : MethodName) method_3_code 5 (some .boolean) :: ws) ({ frames := 0, cells := 0, slots := 0, locals := 0 } : Room)) (fun a U => a = #[(.ref a1), (.int (0 : Int32)), (.int (1 : Int32)), (.int (0 : Int32)), (.int x0)] ∧ Z.Warmed39 U.vm ∧ U.heap = h0) (fun _ _ _ _ _ => True) (fun _ U o U' => ∃ v L, o = .returned v ∧ Q_rmOk_0_1_0 Z a1 ki x0 x1 x2 x3 h0 n0 v U'.heap L ∧ FrameEnd U o U' L ({ frames := 0, cells := 0, slots := 0, locals := 0 } : Room).cells ({ frames := 0, cells := 0, slots := 0, locals := 0 } : Room).slots) := by
  refine MetFree.of_bodySF (plainFor_of_name pn_2) hisR ?_
  intro p e s m args below meth c s₁ Bd hml0 hP hK
  obtain ⟨rfl, hZ, hh⟩ := hP
  have hx := Bd.exec
  have hby := Bd.bytes
  have hml : c.maxLocals = 5 := hml0
  have hown : s.vm.findClass "com/example/spillback/spillback/behaviour/PlanSelectorHighestPinLaw" = some m.cls := findClass_of_methodNamed Bd.named
  have hnm := (name_of_methodNamed Bd.named Bd.method).1
  have X0 : Stand p l e ({ frames := 0, cells := 0, slots := 0, locals := 0 } : Room) s m #[(.ref a1), (.int (0 : Int32)), (.int (1 : Int32)), (.int (0 : Int32)), (.int x0)] below meth c s₁ [] 0 0 := Stand.of_body Bd
  have e0 : s₁.heap = h0 := by rw [← hh, Bd.state]; rfl
  have N0 := Fr.nil n0
  refine own_enter (ef_rmOk_0_1_0 m a1 ((0 : Int32)) ((1 : Int32)) ((0 : Int32)) x0) ?_
  have hn : ¬ (x0 < x0) := by rw [Int32.lt_iff_toInt_lt]; omega
  refine own_st (fun t_ k_ => XS.iloadN X0.here hx rfl (hb hby d2_0) rfl k_) ?_
  show own_Go p e below s₁ (mkF m 1 #[.val (.ref a1), .val (.int (0 : Int32)), .val (.int (1 : Int32)), .val (.int (0 : Int32)), .val (.int x0)] [(.int (0 : Int32))]) _
  refine own_st (fun t_ k_ => XS.iloadN X0.here hx rfl (hb hby d2_1) rfl k_) ?_
  show own_Go p e below s₁ (mkF m 2 #[.val (.ref a1), .val (.int (0 : Int32)), .val (.int (1 : Int32)), .val (.int (0 : Int32)), .val (.int x0)] [(.int (1 : Int32)), (.int (0 : Int32))]) _
  refine own_st (fun t_ k_ => XS.icmpYes X0.here hx rfl (pc0 := 2) (pc' := 7) rfl (hb hby d2_2) rfl (by decide) (by decide) (by decide) k_) ?_
  show own_Go p e below s₁ (mkF m 7 #[.val (.ref a1), .val (.int (0 : Int32)), .val (.int (1 : Int32)), .val (.int (0 : Int32)), .val (.int x0)] []) _
  refine own_st (fun t_ k_ => XS.aloadN X0.here hx rfl (hb hby d2_7) rfl rfl k_) ?_
  show own_Go p e below s₁ (mkF m 8 #[.val (.ref a1), .val (.int (0 : Int32)), .val (.int (1 : Int32)), .val (.int (0 : Int32)), .val (.int x0)] [(.ref a1)]) _
  refine own_st (fun t_ k_ => XS.iloadN X0.here hx rfl (hb hby d2_8) rfl k_) ?_
  show own_Go p e below s₁ (mkF m 9 #[.val (.ref a1), .val (.int (0 : Int32)), .val (.int (1 : Int32)), .val (.int (0 : Int32)), .val (.int x0)] [(.int (0 : Int32)), (.ref a1)]) _
  obtain ⟨cl1, Ar1, q1, Sz1, Nn1, Hh1, Gg1⟩ := id pV_a1
  have hin1 : ¬ ((0 : Int32) < 0 ∨ cl1.slots.size ≤ ((0 : Int32)).toNatClampNeg) := inb_of Sz1 ⟨by decide, by decide⟩
  have hat1 : cl1.slots[((0 : Int32)).toNatClampNeg]? = some (.int x0) := Has.at Hh1 hin1 rfl
  refine own_st (fun t_ k_ => X0.iaload hx (j := (0 : Int32)) (v := (.int x0)) (by rw [e0]; exact Ar1.1) (State.isArrayOf_alike hZ.alike Ar1.2.1) Ar1.2.2 hin1 hat1 (g := (mkF m 9 #[.val (.ref a1), .val (.int (0 : Int32)), .val (.int (1 : Int32)), .val (.int (0 : Int32)), .val (.int x0)] [(.int (0 : Int32)), (.ref a1)])) rfl rfl (hb hby d2_9) _ k_) ?_
  show own_Go p e below s₁ (mkF m 10 #[.val (.ref a1), .val (.int (0 : Int32)), .val (.int (1 : Int32)), .val (.int (0 : Int32)), .val (.int x0)] [(.int x0)]) _
  refine own_st (fun t_ k_ => XS.iload X0.here hx rfl (hb hby d2_10) rfl k_) ?_
  show own_Go p e below s₁ (mkF m 12 #[.val (.ref a1), .val (.int (0 : Int32)), .val (.int (1 : Int32)), .val (.int (0 : Int32)), .val (.int x0)] [(.int x0), (.int x0)]) _
  refine own_st (fun t_ k_ => XS.icmpYes X0.here hx rfl (pc0 := 12) (pc' := 17) rfl (hb hby d2_12) rfl (flt hn).2.2.2 (by decide) (by decide) k_) ?_
  show own_Go p e below s₁ (mkF m 17 #[.val (.ref a1), .val (.int (0 : Int32)), .val (.int (1 : Int32)), .val (.int (0 : Int32)), .val (.int x0)] []) _
  refine own_st (fun t_ k_ => XS.iloadN X0.here hx rfl (hb hby d2_17) rfl k_) ?_
  show own_Go p e below s₁ (mkF m 18 #[.val (.ref a1), .val (.int (0 : Int32)), .val (.int (1 : Int32)), .val (.int (0 : Int32)), .val (.int x0)] [(.int (0 : Int32))]) _
  refine own_st (fun t_ k_ => XS.iloadN X0.here hx rfl (hb hby d2_18) rfl k_) ?_
  show own_Go p e below s₁ (mkF m 19 #[.val (.ref a1), .val (.int (0 : Int32)), .val (.int (1 : Int32)), .val (.int (0 : Int32)), .val (.int x0)] [(.int (0 : Int32)), (.int (0 : Int32))]) _
  refine own_st (fun t_ k_ => XS.icmpYes X0.here hx rfl (pc0 := 19) (pc' := 32) rfl (hb hby d2_19) rfl (by decide) (by decide) (by decide) k_) ?_
  show own_Go p e below s₁ (mkF m 32 #[.val (.ref a1), .val (.int (0 : Int32)), .val (.int (1 : Int32)), .val (.int (0 : Int32)), .val (.int x0)] []) _
  refine own_st (fun t_ k_ => XS.iconst X0.here hx rfl (hb hby d2_32) k_) ?_
  show own_Go p e below s₁ (mkF m 33 #[.val (.ref a1), .val (.int (0 : Int32)), .val (.int (1 : Int32)), .val (.int (0 : Int32)), .val (.int x0)] [(.int (1 : Int32))]) _
  obtain ⟨fs, hr, hrun, hended, hW, hsame⟩ := X0.leave (v := some (.int (1 : Int32))) (fun h => by rw [Bd.returns] at h; cases h)
  refine own_fin (retN X0 hx (t := .boolean) Bd.returns (by simp) (hb hby d2_33) hr) ⟨hrun, hended, _, _, rfl, ?_, ⟨_, rfl⟩, hW, hsame.mono (by decide) (by decide)⟩
  show Q_rmOk_0_1_0 Z a1 ki x0 x1 x2 x3 h0 n0 _ s₁.heap _
  rw [e0]
  exact ⟨rfl, N0, rfl⟩
theorem d2_5 : decode method_3_code 5 = .ok (.iconst 1, 1) := by decide +kernel
theorem d2_6 : decode method_3_code 6 = .ok (.ireturn, 1) := by decide +kernel
theorem ef_rmOk_1_1_0 (m : MethodId) (x0 : Addr) (x1 : Int32) (x2 : Int32) (x3 : Int32) (x4 : Int32) : entryFrame m #[(.ref x0), (.int x1), (.int x2), (.int x3), (.int x4)] 5 = mkF m 0 #[.val (.ref x0), .val (.int x1), .val (.int x2), .val (.int x3), .val (.int x4)] [] := by first | (simp [entryFrame, mkF, argsToLocals, Value.category]; done) | rfl
def Q_rmOk_1_1_0 (Z : State) (a1 : Addr) (ki : ClassId) (x0 : Int32) (x1 : Int32) (x2 : Int32) (x3 : Int32) (h0 : Heap) (n0 : Nat) (v : Option Value) (h : Heap) (L : List Loc) : Prop := v = some (.int (1 : Int32)) ∧ Fr n0 L ∧ h = h0
set_option maxRecDepth 65536 in
set_option maxHeartbeats 40000000 in
theorem rmOk_1_1_0 (l : Launch) (Z : State) (a0 : Array Value) (hw : ∀ d ∈ tables_1, d.before a0 Z = true) (ws : List Jvm.Cond) (a1 : Addr) (ki : ClassId) (x0 : Int32) (x1 : Int32) (x2 : Int32) (x3 : Int32) (h0 : Heap) (n0 : Nat) (Z0 : n0 ≤ h0.size) (pV_a1 : Arv Z h0 a1 ki .int (4 : Int32) [(.int x0), (.int x1), (.int x2), (.int x3)] (.int (0 : Int32))) :
    MetFree l (⟨"com/example/spillback/spillback/behaviour/PlanSelectorHighestPinLaw", "ok", "([IIIII)Z"⟩ : MethodName) (head1 (Jvm.Cond.code (⟨"com/example/spillback/spillback/behaviour/PlanSelectorHighestPinLaw", "ok", "([IIIII)Z"⟩ : MethodName) method_3_code 5 (some .boolean) :: ws) ({ frames := 0, cells := 0, slots := 0, locals := 0 } : Room)) (fun a U => a = #[(.ref a1), (.int (1 : Int32)), (.int (1 : Int32)), (.int (0 : Int32)), (.int x0)] ∧ Z.Warmed39 U.vm ∧ U.heap = h0) (fun _ _ _ _ _ => True) (fun _ U o U' => ∃ v L, o = .returned v ∧ Q_rmOk_1_1_0 Z a1 ki x0 x1 x2 x3 h0 n0 v U'.heap L ∧ FrameEnd U o U' L ({ frames := 0, cells := 0, slots := 0, locals := 0 } : Room).cells ({ frames := 0, cells := 0, slots := 0, locals := 0 } : Room).slots) := by
  refine MetFree.of_bodySF (plainFor_of_name pn_2) hisR ?_
  intro p e s m args below meth c s₁ Bd hml0 hP hK
  obtain ⟨rfl, hZ, hh⟩ := hP
  have hx := Bd.exec
  have hby := Bd.bytes
  have hml : c.maxLocals = 5 := hml0
  have hown : s.vm.findClass "com/example/spillback/spillback/behaviour/PlanSelectorHighestPinLaw" = some m.cls := findClass_of_methodNamed Bd.named
  have hnm := (name_of_methodNamed Bd.named Bd.method).1
  have X0 : Stand p l e ({ frames := 0, cells := 0, slots := 0, locals := 0 } : Room) s m #[(.ref a1), (.int (1 : Int32)), (.int (1 : Int32)), (.int (0 : Int32)), (.int x0)] below meth c s₁ [] 0 0 := Stand.of_body Bd
  have e0 : s₁.heap = h0 := by rw [← hh, Bd.state]; rfl
  have N0 := Fr.nil n0
  refine own_enter (ef_rmOk_1_1_0 m a1 ((1 : Int32)) ((1 : Int32)) ((0 : Int32)) x0) ?_
  skip
  refine own_st (fun t_ k_ => XS.iloadN X0.here hx rfl (hb hby d2_0) rfl k_) ?_
  show own_Go p e below s₁ (mkF m 1 #[.val (.ref a1), .val (.int (1 : Int32)), .val (.int (1 : Int32)), .val (.int (0 : Int32)), .val (.int x0)] [(.int (1 : Int32))]) _
  refine own_st (fun t_ k_ => XS.iloadN X0.here hx rfl (hb hby d2_1) rfl k_) ?_
  show own_Go p e below s₁ (mkF m 2 #[.val (.ref a1), .val (.int (1 : Int32)), .val (.int (1 : Int32)), .val (.int (0 : Int32)), .val (.int x0)] [(.int (1 : Int32)), (.int (1 : Int32))]) _
  refine own_st (fun t_ k_ => XS.icmpNo X0.here hx rfl (hb hby d2_2) rfl (by decide) k_) ?_
  show own_Go p e below s₁ (mkF m 5 #[.val (.ref a1), .val (.int (1 : Int32)), .val (.int (1 : Int32)), .val (.int (0 : Int32)), .val (.int x0)] []) _
  refine own_st (fun t_ k_ => XS.iconst X0.here hx rfl (hb hby d2_5) k_) ?_
  show own_Go p e below s₁ (mkF m 6 #[.val (.ref a1), .val (.int (1 : Int32)), .val (.int (1 : Int32)), .val (.int (0 : Int32)), .val (.int x0)] [(.int (1 : Int32))]) _
  obtain ⟨fs, hr, hrun, hended, hW, hsame⟩ := X0.leave (v := some (.int (1 : Int32))) (fun h => by rw [Bd.returns] at h; cases h)
  refine own_fin (retN X0 hx (t := .boolean) Bd.returns (by simp) (hb hby d2_6) hr) ⟨hrun, hended, _, _, rfl, ?_, ⟨_, rfl⟩, hW, hsame.mono (by decide) (by decide)⟩
  show Q_rmOk_1_1_0 Z a1 ki x0 x1 x2 x3 h0 n0 _ s₁.heap _
  rw [e0]
  exact ⟨rfl, N0, rfl⟩
theorem ef_rmOk_2_1_0 (m : MethodId) (x0 : Addr) (x1 : Int32) (x2 : Int32) (x3 : Int32) (x4 : Int32) : entryFrame m #[(.ref x0), (.int x1), (.int x2), (.int x3), (.int x4)] 5 = mkF m 0 #[.val (.ref x0), .val (.int x1), .val (.int x2), .val (.int x3), .val (.int x4)] [] := by first | (simp [entryFrame, mkF, argsToLocals, Value.category]; done) | rfl
def Q_rmOk_2_1_0 (Z : State) (a1 : Addr) (ki : ClassId) (x0 : Int32) (x1 : Int32) (x2 : Int32) (x3 : Int32) (h0 : Heap) (n0 : Nat) (v : Option Value) (h : Heap) (L : List Loc) : Prop := v = some (.int (1 : Int32)) ∧ Fr n0 L ∧ h = h0
set_option maxRecDepth 65536 in
set_option maxHeartbeats 40000000 in
theorem rmOk_2_1_0 (l : Launch) (Z : State) (a0 : Array Value) (hw : ∀ d ∈ tables_1, d.before a0 Z = true) (ws : List Jvm.Cond) (a1 : Addr) (ki : ClassId) (x0 : Int32) (x1 : Int32) (x2 : Int32) (x3 : Int32) (h0 : Heap) (n0 : Nat) (Z0 : n0 ≤ h0.size) (pV_a1 : Arv Z h0 a1 ki .int (4 : Int32) [(.int x0), (.int x1), (.int x2), (.int x3)] (.int (0 : Int32))) :
    MetFree l (⟨"com/example/spillback/spillback/behaviour/PlanSelectorHighestPinLaw", "ok", "([IIIII)Z"⟩ : MethodName) (head1 (Jvm.Cond.code (⟨"com/example/spillback/spillback/behaviour/PlanSelectorHighestPinLaw", "ok", "([IIIII)Z"⟩ : MethodName) method_3_code 5 (some .boolean) :: ws) ({ frames := 0, cells := 0, slots := 0, locals := 0 } : Room)) (fun a U => a = #[(.ref a1), (.int (2 : Int32)), (.int (1 : Int32)), (.int (0 : Int32)), (.int x0)] ∧ Z.Warmed39 U.vm ∧ U.heap = h0) (fun _ _ _ _ _ => True) (fun _ U o U' => ∃ v L, o = .returned v ∧ Q_rmOk_2_1_0 Z a1 ki x0 x1 x2 x3 h0 n0 v U'.heap L ∧ FrameEnd U o U' L ({ frames := 0, cells := 0, slots := 0, locals := 0 } : Room).cells ({ frames := 0, cells := 0, slots := 0, locals := 0 } : Room).slots) := by
  refine MetFree.of_bodySF (plainFor_of_name pn_2) hisR ?_
  intro p e s m args below meth c s₁ Bd hml0 hP hK
  obtain ⟨rfl, hZ, hh⟩ := hP
  have hx := Bd.exec
  have hby := Bd.bytes
  have hml : c.maxLocals = 5 := hml0
  have hown : s.vm.findClass "com/example/spillback/spillback/behaviour/PlanSelectorHighestPinLaw" = some m.cls := findClass_of_methodNamed Bd.named
  have hnm := (name_of_methodNamed Bd.named Bd.method).1
  have X0 : Stand p l e ({ frames := 0, cells := 0, slots := 0, locals := 0 } : Room) s m #[(.ref a1), (.int (2 : Int32)), (.int (1 : Int32)), (.int (0 : Int32)), (.int x0)] below meth c s₁ [] 0 0 := Stand.of_body Bd
  have e0 : s₁.heap = h0 := by rw [← hh, Bd.state]; rfl
  have N0 := Fr.nil n0
  refine own_enter (ef_rmOk_2_1_0 m a1 ((2 : Int32)) ((1 : Int32)) ((0 : Int32)) x0) ?_
  skip
  refine own_st (fun t_ k_ => XS.iloadN X0.here hx rfl (hb hby d2_0) rfl k_) ?_
  show own_Go p e below s₁ (mkF m 1 #[.val (.ref a1), .val (.int (2 : Int32)), .val (.int (1 : Int32)), .val (.int (0 : Int32)), .val (.int x0)] [(.int (2 : Int32))]) _
  refine own_st (fun t_ k_ => XS.iloadN X0.here hx rfl (hb hby d2_1) rfl k_) ?_
  show own_Go p e below s₁ (mkF m 2 #[.val (.ref a1), .val (.int (2 : Int32)), .val (.int (1 : Int32)), .val (.int (0 : Int32)), .val (.int x0)] [(.int (1 : Int32)), (.int (2 : Int32))]) _
  refine own_st (fun t_ k_ => XS.icmpNo X0.here hx rfl (hb hby d2_2) rfl (by decide) k_) ?_
  show own_Go p e below s₁ (mkF m 5 #[.val (.ref a1), .val (.int (2 : Int32)), .val (.int (1 : Int32)), .val (.int (0 : Int32)), .val (.int x0)] []) _
  refine own_st (fun t_ k_ => XS.iconst X0.here hx rfl (hb hby d2_5) k_) ?_
  show own_Go p e below s₁ (mkF m 6 #[.val (.ref a1), .val (.int (2 : Int32)), .val (.int (1 : Int32)), .val (.int (0 : Int32)), .val (.int x0)] [(.int (1 : Int32))]) _
  obtain ⟨fs, hr, hrun, hended, hW, hsame⟩ := X0.leave (v := some (.int (1 : Int32))) (fun h => by rw [Bd.returns] at h; cases h)
  refine own_fin (retN X0 hx (t := .boolean) Bd.returns (by simp) (hb hby d2_6) hr) ⟨hrun, hended, _, _, rfl, ?_, ⟨_, rfl⟩, hW, hsame.mono (by decide) (by decide)⟩
  show Q_rmOk_2_1_0 Z a1 ki x0 x1 x2 x3 h0 n0 _ s₁.heap _
  rw [e0]
  exact ⟨rfl, N0, rfl⟩
theorem ef_rmOk_3_1_0 (m : MethodId) (x0 : Addr) (x1 : Int32) (x2 : Int32) (x3 : Int32) (x4 : Int32) : entryFrame m #[(.ref x0), (.int x1), (.int x2), (.int x3), (.int x4)] 5 = mkF m 0 #[.val (.ref x0), .val (.int x1), .val (.int x2), .val (.int x3), .val (.int x4)] [] := by first | (simp [entryFrame, mkF, argsToLocals, Value.category]; done) | rfl
def Q_rmOk_3_1_0 (Z : State) (a1 : Addr) (ki : ClassId) (x0 : Int32) (x1 : Int32) (x2 : Int32) (x3 : Int32) (h0 : Heap) (n0 : Nat) (v : Option Value) (h : Heap) (L : List Loc) : Prop := v = some (.int (1 : Int32)) ∧ Fr n0 L ∧ h = h0
set_option maxRecDepth 65536 in
set_option maxHeartbeats 40000000 in
theorem rmOk_3_1_0 (l : Launch) (Z : State) (a0 : Array Value) (hw : ∀ d ∈ tables_1, d.before a0 Z = true) (ws : List Jvm.Cond) (a1 : Addr) (ki : ClassId) (x0 : Int32) (x1 : Int32) (x2 : Int32) (x3 : Int32) (h0 : Heap) (n0 : Nat) (Z0 : n0 ≤ h0.size) (pV_a1 : Arv Z h0 a1 ki .int (4 : Int32) [(.int x0), (.int x1), (.int x2), (.int x3)] (.int (0 : Int32))) :
    MetFree l (⟨"com/example/spillback/spillback/behaviour/PlanSelectorHighestPinLaw", "ok", "([IIIII)Z"⟩ : MethodName) (head1 (Jvm.Cond.code (⟨"com/example/spillback/spillback/behaviour/PlanSelectorHighestPinLaw", "ok", "([IIIII)Z"⟩ : MethodName) method_3_code 5 (some .boolean) :: ws) ({ frames := 0, cells := 0, slots := 0, locals := 0 } : Room)) (fun a U => a = #[(.ref a1), (.int (3 : Int32)), (.int (1 : Int32)), (.int (0 : Int32)), (.int x0)] ∧ Z.Warmed39 U.vm ∧ U.heap = h0) (fun _ _ _ _ _ => True) (fun _ U o U' => ∃ v L, o = .returned v ∧ Q_rmOk_3_1_0 Z a1 ki x0 x1 x2 x3 h0 n0 v U'.heap L ∧ FrameEnd U o U' L ({ frames := 0, cells := 0, slots := 0, locals := 0 } : Room).cells ({ frames := 0, cells := 0, slots := 0, locals := 0 } : Room).slots) := by
  refine MetFree.of_bodySF (plainFor_of_name pn_2) hisR ?_
  intro p e s m args below meth c s₁ Bd hml0 hP hK
  obtain ⟨rfl, hZ, hh⟩ := hP
  have hx := Bd.exec
  have hby := Bd.bytes
  have hml : c.maxLocals = 5 := hml0
  have hown : s.vm.findClass "com/example/spillback/spillback/behaviour/PlanSelectorHighestPinLaw" = some m.cls := findClass_of_methodNamed Bd.named
  have hnm := (name_of_methodNamed Bd.named Bd.method).1
  have X0 : Stand p l e ({ frames := 0, cells := 0, slots := 0, locals := 0 } : Room) s m #[(.ref a1), (.int (3 : Int32)), (.int (1 : Int32)), (.int (0 : Int32)), (.int x0)] below meth c s₁ [] 0 0 := Stand.of_body Bd
  have e0 : s₁.heap = h0 := by rw [← hh, Bd.state]; rfl
  have N0 := Fr.nil n0
  refine own_enter (ef_rmOk_3_1_0 m a1 ((3 : Int32)) ((1 : Int32)) ((0 : Int32)) x0) ?_
  skip
  refine own_st (fun t_ k_ => XS.iloadN X0.here hx rfl (hb hby d2_0) rfl k_) ?_
  show own_Go p e below s₁ (mkF m 1 #[.val (.ref a1), .val (.int (3 : Int32)), .val (.int (1 : Int32)), .val (.int (0 : Int32)), .val (.int x0)] [(.int (3 : Int32))]) _
  refine own_st (fun t_ k_ => XS.iloadN X0.here hx rfl (hb hby d2_1) rfl k_) ?_
  show own_Go p e below s₁ (mkF m 2 #[.val (.ref a1), .val (.int (3 : Int32)), .val (.int (1 : Int32)), .val (.int (0 : Int32)), .val (.int x0)] [(.int (1 : Int32)), (.int (3 : Int32))]) _
  refine own_st (fun t_ k_ => XS.icmpNo X0.here hx rfl (hb hby d2_2) rfl (by decide) k_) ?_
  show own_Go p e below s₁ (mkF m 5 #[.val (.ref a1), .val (.int (3 : Int32)), .val (.int (1 : Int32)), .val (.int (0 : Int32)), .val (.int x0)] []) _
  refine own_st (fun t_ k_ => XS.iconst X0.here hx rfl (hb hby d2_5) k_) ?_
  show own_Go p e below s₁ (mkF m 6 #[.val (.ref a1), .val (.int (3 : Int32)), .val (.int (1 : Int32)), .val (.int (0 : Int32)), .val (.int x0)] [(.int (1 : Int32))]) _
  obtain ⟨fs, hr, hrun, hended, hW, hsame⟩ := X0.leave (v := some (.int (1 : Int32))) (fun h => by rw [Bd.returns] at h; cases h)
  refine own_fin (retN X0 hx (t := .boolean) Bd.returns (by simp) (hb hby d2_6) hr) ⟨hrun, hended, _, _, rfl, ?_, ⟨_, rfl⟩, hW, hsame.mono (by decide) (by decide)⟩
  show Q_rmOk_3_1_0 Z a1 ki x0 x1 x2 x3 h0 n0 _ s₁.heap _
  rw [e0]
  exact ⟨rfl, N0, rfl⟩
theorem pn_0 : plainName "com/example/spillback/spillback/behaviour/PlanSelectorHighestPinLaw" = true := by first | (simp [plainName, overriddenIn]; done) | decide +kernel
theorem pd___D_I : parseMethodDescriptor "([D)I" = some ⟨[(.array .double)], some .int⟩ := by decide +kernel
theorem pd___IIIII_Z : parseMethodDescriptor "([IIIII)Z" = some ⟨[(.array .int), .int, .int, .int, .int], some .boolean⟩ := by decide +kernel
theorem ef_rmLaw1 (m : MethodId) (x0 : Int32) (x1 : Int32) (x2 : Int32) (x3 : Int32) (x4 : Int32) : entryFrame m #[(.int x0), (.int x1), (.int x2), (.int x3), (.int x4)] maxLocals = mkF m 0 #[.val (.int x0), .val (.int x1), .val (.int x2), .val (.int x3), .val (.int x4), .unset, .unset, .unset, .unset, .unset] [] := by first | (simp [entryFrame, mkF, argsToLocals, Value.category, maxLocals]; done) | rfl
def Q_rmLaw1 (Z : State) (p0 : Int32) (x0 : Int32) (x1 : Int32) (x2 : Int32) (x3 : Int32) (h0 : Heap) (n0 : Nat) (v : Option Value) (h : Heap) (L : List Loc) : Prop := v = some (.int (1 : Int32)) ∧ Fr n0 L ∧ Keep h0 h []
set_option maxRecDepth 65536 in
set_option maxHeartbeats 40000000 in
theorem rmLaw1 (l : Launch) (Z : State) (a0 : Array Value) (hw : ∀ d ∈ tables_1, d.before a0 Z = true) (ws : List Jvm.Cond) (p0 : Int32) (x0 : Int32) (x1 : Int32) (x2 : Int32) (x3 : Int32) (h0 : Heap) (n0 : Nat) (Z0 : n0 ≤ h0.size) (hn : (p0 &&& (3 : Int32) = (0 : Int32))) :
    MetFree l x (head1 (Jvm.Cond.code x code maxLocals ret :: ws) room_1) (fun a U => a = #[(.int p0), (.int x0), (.int x1), (.int x2), (.int x3)] ∧ Z.Warmed39 U.vm ∧ U.heap = h0) (fun _ _ _ _ _ => True) (fun _ U o U' => ∃ v L, o = .returned v ∧ Q_rmLaw1 Z p0 x0 x1 x2 x3 h0 n0 v U'.heap L ∧ FrameEnd U o U' L 16 128) := by
  refine MetFree.of_bodySF (plainFor_of_name pn_0) hisR ?_
  intro p e s m args below meth c s₁ Bd hml0 hP hK
  obtain ⟨rfl, hZ, hh⟩ := hP
  have hx := Bd.exec
  have hby := Bd.bytes
  have hml : c.maxLocals = 10 := hml0
  have hown : s.vm.findClass "com/example/spillback/spillback/behaviour/PlanSelectorHighestPinLaw" = some m.cls := findClass_of_methodNamed Bd.named
  have hnm := (name_of_methodNamed Bd.named Bd.method).1
  have X0 : Stand p l e room_1 s m #[(.int p0), (.int x0), (.int x1), (.int x2), (.int x3)] below meth c s₁ [] 0 0 := Stand.of_body Bd
  have e0 : s₁.heap = h0 := by rw [← hh, Bd.state]; rfl
  have N0 := Fr.nil n0
  refine own_enter (ef_rmLaw1 m p0 x0 x1 x2 x3) ?_
  refine own_st (fun t_ k_ => XS.iloadN X0.here hx rfl (hb hby at_0) rfl k_) ?_
  show own_Go p e below s₁ (mkF m 1 #[.val (.int p0), .val (.int x0), .val (.int x1), .val (.int x2), .val (.int x3), .unset, .unset, .unset, .unset, .unset] [(.int p0)]) _
  refine own_st (fun t_ k_ => XS.iconst X0.here hx rfl (hb hby at_1) k_) ?_
  show own_Go p e below s₁ (mkF m 2 #[.val (.int p0), .val (.int x0), .val (.int x1), .val (.int x2), .val (.int x3), .unset, .unset, .unset, .unset, .unset] [(.int (3 : Int32)), (.int p0)]) _
  refine own_st (fun t_ k_ => XS.iand X0.here hx rfl (hb hby at_2) rfl k_) ?_
  show own_Go p e below s₁ (mkF m 3 #[.val (.int p0), .val (.int x0), .val (.int x1), .val (.int x2), .val (.int x3), .unset, .unset, .unset, .unset, .unset] [(.int (p0 &&& (3 : Int32)))]) _
  rw [hn]
  show own_Go p e below s₁ (mkF m 3 #[.val (.int p0), .val (.int x0), .val (.int x1), .val (.int x2), .val (.int x3), .unset, .unset, .unset, .unset, .unset] [(.int (0 : Int32))]) _
  refine own_st (fun t_ k_ => XS.iconst X0.here hx rfl (hb hby at_3) k_) ?_
  show own_Go p e below s₁ (mkF m 4 #[.val (.int p0), .val (.int x0), .val (.int x1), .val (.int x2), .val (.int x3), .unset, .unset, .unset, .unset, .unset] [(.int (1 : Int32)), (.int (0 : Int32))]) _
  refine own_st (fun t_ k_ => XS.iadd X0.here hx rfl (hb hby at_4) rfl k_) ?_
  show own_Go p e below s₁ (mkF m 5 #[.val (.int p0), .val (.int x0), .val (.int x1), .val (.int x2), .val (.int x3), .unset, .unset, .unset, .unset, .unset] [(.int (1 : Int32))]) _
  refine own_st (fun t_ k_ => XS.istore X0.here hx rfl (hb hby at_5) rfl (l' := #[.val (.int p0), .val (.int x0), .val (.int x1), .val (.int x2), .val (.int x3), .val (.int (1 : Int32)), .unset, .unset, .unset, .unset]) rfl k_) ?_
  show own_Go p e below s₁ (mkF m 7 #[.val (.int p0), .val (.int x0), .val (.int x1), .val (.int x2), .val (.int x3), .val (.int (1 : Int32)), .unset, .unset, .unset, .unset] []) _
  refine own_st (fun t_ k_ => XS.iconst X0.here hx rfl (hb hby at_7) k_) ?_
  show own_Go p e below s₁ (mkF m 8 #[.val (.int p0), .val (.int x0), .val (.int x1), .val (.int x2), .val (.int x3), .val (.int (1 : Int32)), .unset, .unset, .unset, .unset] [(.int (4 : Int32))]) _
  obtain ⟨T1, h1, k1, X1, e1, E1, A1, st1⟩ := newP X0 hx hZ (hw _ (List.mem_of_getElem? (i := 0) rfl)) e0 (g := (mkF m 8 #[.val (.int p0), .val (.int x0), .val (.int x1), .val (.int x2), .val (.int x3), .val (.int (1 : Int32)), .unset, .unset, .unset, .unset] [(.int (4 : Int32))])) rfl (hb hby at_8) rfl (by decide) (cap := 4) (by decide) (by decide) (by decide) (by decide)
  obtain ⟨b1, g1⟩ : ∃ z, z = h0.size := ⟨_, rfl⟩
  rw [← g1] at A1 st1
  have G1 : n0 ≤ b1 := Nat.le_trans Z0 (Nat.le_of_eq g1.symm)
  have B1 : h0.size ≤ b1 := Nat.le_trans (Keep.refl h0 []).1 (Nat.le_of_eq g1.symm)
  have K2 : Keep h0 h1 [] := (Keep.refl h0 []).ext E1
  have V1 : Arv Z h1 b1 k1 .int (4 : Int32) [(.int (0 : Int32)), (.int (0 : Int32)), (.int (0 : Int32)), (.int (0 : Int32))] (.int (0 : Int32)) := (Arv.new A1 (by decide)).pad (pad_rep [] (.int (0 : Int32)) 4)
  refine own_st st1 ?_
  show own_Go p e below T1 (mkF m 10 #[.val (.int p0), .val (.int x0), .val (.int x1), .val (.int x2), .val (.int x3), .val (.int (1 : Int32)), .unset, .unset, .unset, .unset] [(.ref b1)]) _
  refine own_st (fun t_ k_ => XS.astore X1.here hx rfl (hb hby at_10) rfl rfl (l' := #[.val (.int p0), .val (.int x0), .val (.int x1), .val (.int x2), .val (.int x3), .val (.int (1 : Int32)), .val (.ref b1), .unset, .unset, .unset]) rfl k_) ?_
  show own_Go p e below T1 (mkF m 12 #[.val (.int p0), .val (.int x0), .val (.int x1), .val (.int x2), .val (.int x3), .val (.int (1 : Int32)), .val (.ref b1), .unset, .unset, .unset] []) _
  refine own_st (fun t_ k_ => XS.aload X1.here hx rfl (hb hby at_12) rfl rfl k_) ?_
  show own_Go p e below T1 (mkF m 14 #[.val (.int p0), .val (.int x0), .val (.int x1), .val (.int x2), .val (.int x3), .val (.int (1 : Int32)), .val (.ref b1), .unset, .unset, .unset] [(.ref b1)]) _
  refine own_st (fun t_ k_ => XS.iconst X1.here hx rfl (hb hby at_14) k_) ?_
  show own_Go p e below T1 (mkF m 15 #[.val (.int p0), .val (.int x0), .val (.int x1), .val (.int x2), .val (.int x3), .val (.int (1 : Int32)), .val (.ref b1), .unset, .unset, .unset] [(.int (0 : Int32)), (.ref b1)]) _
  refine own_st (fun t_ k_ => XS.iloadN X1.here hx rfl (hb hby at_15) rfl k_) ?_
  show own_Go p e below T1 (mkF m 16 #[.val (.int p0), .val (.int x0), .val (.int x1), .val (.int x2), .val (.int x3), .val (.int (1 : Int32)), .val (.ref b1), .unset, .unset, .unset] [(.int x0), (.int (0 : Int32)), (.ref b1)]) _
  obtain ⟨cl3, Ar3, q3, Sz3, Nn3, Hh3, Gg3⟩ := id V1
  have hin3 : ¬ ((0 : Int32) < 0 ∨ cl3.slots.size ≤ ((0 : Int32)).toNatClampNeg) := inb_of Sz3 ⟨by decide, by decide⟩
  obtain ⟨T4, h4, X4, e4, W4, st4⟩ := stI X1 hx hZ e1 Ar3 (j := (0 : Int32)) hin3 (g := (mkF m 16 #[.val (.int p0), .val (.int x0), .val (.int x1), .val (.int x2), .val (.int x3), .val (.int (1 : Int32)), .val (.ref b1), .unset, .unset, .unset] [(.int x0), (.int (0 : Int32)), (.ref b1)])) rfl rfl (hb hby at_16)
  have V4 : Arv Z h4 b1 k1 .int (4 : Int32) [(.int x0), (.int (0 : Int32)), (.int (0 : Int32)), (.int (0 : Int32))] (.int (0 : Int32)) := Arv.set Ar3 q3 Sz3 Nn3 Hh3 Gg3 rfl W4 0 rfl (Nat.le_of_ble_eq_true rfl)
  have K5 : Keep h0 h4 [] := K2.wr W4 (Or.inr B1)
  have N4 := Fr.snoc X4 N0 G1
  refine own_st st4 ?_
  show own_Go p e below T4 (mkF m 17 #[.val (.int p0), .val (.int x0), .val (.int x1), .val (.int x2), .val (.int x3), .val (.int (1 : Int32)), .val (.ref b1), .unset, .unset, .unset] []) _
  refine own_st (fun t_ k_ => XS.aload X4.here hx rfl (hb hby at_17) rfl rfl k_) ?_
  show own_Go p e below T4 (mkF m 19 #[.val (.int p0), .val (.int x0), .val (.int x1), .val (.int x2), .val (.int x3), .val (.int (1 : Int32)), .val (.ref b1), .unset, .unset, .unset] [(.ref b1)]) _
  refine own_st (fun t_ k_ => XS.iconst X4.here hx rfl (hb hby at_19) k_) ?_
  show own_Go p e below T4 (mkF m 20 #[.val (.int p0), .val (.int x0), .val (.int x1), .val (.int x2), .val (.int x3), .val (.int (1 : Int32)), .val (.ref b1), .unset, .unset, .unset] [(.int (1 : Int32)), (.ref b1)]) _
  refine own_st (fun t_ k_ => XS.iloadN X4.here hx rfl (hb hby at_20) rfl k_) ?_
  show own_Go p e below T4 (mkF m 21 #[.val (.int p0), .val (.int x0), .val (.int x1), .val (.int x2), .val (.int x3), .val (.int (1 : Int32)), .val (.ref b1), .unset, .unset, .unset] [(.int x1), (.int (1 : Int32)), (.ref b1)]) _
  obtain ⟨cl6, Ar6, q6, Sz6, Nn6, Hh6, Gg6⟩ := id V4
  have hin6 : ¬ ((1 : Int32) < 0 ∨ cl6.slots.size ≤ ((1 : Int32)).toNatClampNeg) := inb_of Sz6 ⟨by decide, by decide⟩
  obtain ⟨T7, h7, X7, e7, W7, st7⟩ := stI X4 hx hZ e4 Ar6 (j := (1 : Int32)) hin6 (g := (mkF m 21 #[.val (.int p0), .val (.int x0), .val (.int x1), .val (.int x2), .val (.int x3), .val (.int (1 : Int32)), .val (.ref b1), .unset, .unset, .unset] [(.int x1), (.int (1 : Int32)), (.ref b1)])) rfl rfl (hb hby at_21)
  have V7 : Arv Z h7 b1 k1 .int (4 : Int32) [(.int x0), (.int x1), (.int (0 : Int32)), (.int (0 : Int32))] (.int (0 : Int32)) := Arv.set Ar6 q6 Sz6 Nn6 Hh6 Gg6 rfl W7 1 rfl (Nat.le_of_ble_eq_true rfl)
  have K8 : Keep h0 h7 [] := K5.wr W7 (Or.inr B1)
  have N7 := Fr.snoc X7 N4 G1
  refine own_st st7 ?_
  show own_Go p e below T7 (mkF m 22 #[.val (.int p0), .val (.int x0), .val (.int x1), .val (.int x2), .val (.int x3), .val (.int (1 : Int32)), .val (.ref b1), .unset, .unset, .unset] []) _
  refine own_st (fun t_ k_ => XS.aload X7.here hx rfl (hb hby at_22) rfl rfl k_) ?_
  show own_Go p e below T7 (mkF m 24 #[.val (.int p0), .val (.int x0), .val (.int x1), .val (.int x2), .val (.int x3), .val (.int (1 : Int32)), .val (.ref b1), .unset, .unset, .unset] [(.ref b1)]) _
  refine own_st (fun t_ k_ => XS.iconst X7.here hx rfl (hb hby at_24) k_) ?_
  show own_Go p e below T7 (mkF m 25 #[.val (.int p0), .val (.int x0), .val (.int x1), .val (.int x2), .val (.int x3), .val (.int (1 : Int32)), .val (.ref b1), .unset, .unset, .unset] [(.int (2 : Int32)), (.ref b1)]) _
  refine own_st (fun t_ k_ => XS.iloadN X7.here hx rfl (hb hby at_25) rfl k_) ?_
  show own_Go p e below T7 (mkF m 26 #[.val (.int p0), .val (.int x0), .val (.int x1), .val (.int x2), .val (.int x3), .val (.int (1 : Int32)), .val (.ref b1), .unset, .unset, .unset] [(.int x2), (.int (2 : Int32)), (.ref b1)]) _
  obtain ⟨cl9, Ar9, q9, Sz9, Nn9, Hh9, Gg9⟩ := id V7
  have hin9 : ¬ ((2 : Int32) < 0 ∨ cl9.slots.size ≤ ((2 : Int32)).toNatClampNeg) := inb_of Sz9 ⟨by decide, by decide⟩
  obtain ⟨T10, h10, X10, e10, W10, st10⟩ := stI X7 hx hZ e7 Ar9 (j := (2 : Int32)) hin9 (g := (mkF m 26 #[.val (.int p0), .val (.int x0), .val (.int x1), .val (.int x2), .val (.int x3), .val (.int (1 : Int32)), .val (.ref b1), .unset, .unset, .unset] [(.int x2), (.int (2 : Int32)), (.ref b1)])) rfl rfl (hb hby at_26)
  have V10 : Arv Z h10 b1 k1 .int (4 : Int32) [(.int x0), (.int x1), (.int x2), (.int (0 : Int32))] (.int (0 : Int32)) := Arv.set Ar9 q9 Sz9 Nn9 Hh9 Gg9 rfl W10 2 rfl (Nat.le_of_ble_eq_true rfl)
  have K11 : Keep h0 h10 [] := K8.wr W10 (Or.inr B1)
  have N10 := Fr.snoc X10 N7 G1
  refine own_st st10 ?_
  show own_Go p e below T10 (mkF m 27 #[.val (.int p0), .val (.int x0), .val (.int x1), .val (.int x2), .val (.int x3), .val (.int (1 : Int32)), .val (.ref b1), .unset, .unset, .unset] []) _
  refine own_st (fun t_ k_ => XS.aload X10.here hx rfl (hb hby at_27) rfl rfl k_) ?_
  show own_Go p e below T10 (mkF m 29 #[.val (.int p0), .val (.int x0), .val (.int x1), .val (.int x2), .val (.int x3), .val (.int (1 : Int32)), .val (.ref b1), .unset, .unset, .unset] [(.ref b1)]) _
  refine own_st (fun t_ k_ => XS.iconst X10.here hx rfl (hb hby at_29) k_) ?_
  show own_Go p e below T10 (mkF m 30 #[.val (.int p0), .val (.int x0), .val (.int x1), .val (.int x2), .val (.int x3), .val (.int (1 : Int32)), .val (.ref b1), .unset, .unset, .unset] [(.int (3 : Int32)), (.ref b1)]) _
  refine own_st (fun t_ k_ => XS.iload X10.here hx rfl (hb hby at_30) rfl k_) ?_
  show own_Go p e below T10 (mkF m 32 #[.val (.int p0), .val (.int x0), .val (.int x1), .val (.int x2), .val (.int x3), .val (.int (1 : Int32)), .val (.ref b1), .unset, .unset, .unset] [(.int x3), (.int (3 : Int32)), (.ref b1)]) _
  obtain ⟨cl12, Ar12, q12, Sz12, Nn12, Hh12, Gg12⟩ := id V10
  have hin12 : ¬ ((3 : Int32) < 0 ∨ cl12.slots.size ≤ ((3 : Int32)).toNatClampNeg) := inb_of Sz12 ⟨by decide, by decide⟩
  obtain ⟨T13, h13, X13, e13, W13, st13⟩ := stI X10 hx hZ e10 Ar12 (j := (3 : Int32)) hin12 (g := (mkF m 32 #[.val (.int p0), .val (.int x0), .val (.int x1), .val (.int x2), .val (.int x3), .val (.int (1 : Int32)), .val (.ref b1), .unset, .unset, .unset] [(.int x3), (.int (3 : Int32)), (.ref b1)])) rfl rfl (hb hby at_32)
  have V13 : Arv Z h13 b1 k1 .int (4 : Int32) [(.int x0), (.int x1), (.int x2), (.int x3)] (.int (0 : Int32)) := Arv.set Ar12 q12 Sz12 Nn12 Hh12 Gg12 rfl W13 3 rfl (Nat.le_of_ble_eq_true rfl)
  have K14 : Keep h0 h13 [] := K11.wr W13 (Or.inr B1)
  have N13 := Fr.snoc X13 N10 G1
  refine own_st st13 ?_
  show own_Go p e below T13 (mkF m 33 #[.val (.int p0), .val (.int x0), .val (.int x1), .val (.int x2), .val (.int x3), .val (.int (1 : Int32)), .val (.ref b1), .unset, .unset, .unset] []) _
  refine own_st (fun t_ k_ => XS.iload X13.here hx rfl (hb hby at_33) rfl k_) ?_
  show own_Go p e below T13 (mkF m 35 #[.val (.int p0), .val (.int x0), .val (.int x1), .val (.int x2), .val (.int x3), .val (.int (1 : Int32)), .val (.ref b1), .unset, .unset, .unset] [(.int (1 : Int32))]) _
  have f15 := (Nat.le_trans (Nat.le_trans (Nat.le_trans (Nat.le_trans (Nat.le_trans Z0 E1.1) (Keep.of_wr W4).1) (Keep.of_wr W7).1) (Keep.of_wr W10).1) (Keep.of_wr W13).1)
  obtain ⟨T16, h16, k16, X16, e16, E16, A16, st16⟩ := newP X13 hx hZ (hw _ (List.mem_of_getElem? (i := 1) rfl)) e13 (g := (mkF m 35 #[.val (.int p0), .val (.int x0), .val (.int x1), .val (.int x2), .val (.int x3), .val (.int (1 : Int32)), .val (.ref b1), .unset, .unset, .unset] [(.int (1 : Int32))])) rfl (hb hby at_35) rfl (by decide) (cap := 1) (by decide) (by decide) (by decide) (by decide)
  obtain ⟨b16, g16⟩ : ∃ z, z = h13.size := ⟨_, rfl⟩
  rw [← g16] at A16 st16
  have G16 : n0 ≤ b16 := Nat.le_trans f15 (Nat.le_of_eq g16.symm)
  have B16 : h0.size ≤ b16 := Nat.le_trans K14.1 (Nat.le_of_eq g16.symm)
  have K17 : Keep h0 h16 [] := K14.ext E16
  have V16 : Arv Z h16 b16 k16 .double (1 : Int32) [(.double (0 : UInt64))] (.double (0 : UInt64)) := (Arv.new A16 (by decide)).pad (pad_rep [] (.double (0 : UInt64)) 1)
  refine own_st st16 ?_
  show own_Go p e below T16 (mkF m 37 #[.val (.int p0), .val (.int x0), .val (.int x1), .val (.int x2), .val (.int x3), .val (.int (1 : Int32)), .val (.ref b1), .unset, .unset, .unset] [(.ref b16)]) _
  refine own_st (fun t_ k_ => XS.astore X16.here hx rfl (hb hby at_37) rfl rfl (l' := #[.val (.int p0), .val (.int x0), .val (.int x1), .val (.int x2), .val (.int x3), .val (.int (1 : Int32)), .val (.ref b1), .val (.ref b16), .unset, .unset]) rfl k_) ?_
  show own_Go p e below T16 (mkF m 39 #[.val (.int p0), .val (.int x0), .val (.int x1), .val (.int x2), .val (.int x3), .val (.int (1 : Int32)), .val (.ref b1), .val (.ref b16), .unset, .unset] []) _
  refine own_st (fun t_ k_ => XS.aload X16.here hx rfl (hb hby at_39) rfl rfl k_) ?_
  show own_Go p e below T16 (mkF m 41 #[.val (.int p0), .val (.int x0), .val (.int x1), .val (.int x2), .val (.int x3), .val (.int (1 : Int32)), .val (.ref b1), .val (.ref b16), .unset, .unset] [(.ref b16)]) _
  refine own_st (fun t_ k_ => XS.iconst X16.here hx rfl (hb hby at_41) k_) ?_
  show own_Go p e below T16 (mkF m 42 #[.val (.int p0), .val (.int x0), .val (.int x1), .val (.int x2), .val (.int x3), .val (.int (1 : Int32)), .val (.ref b1), .val (.ref b16), .unset, .unset] [(.int (0 : Int32)), (.ref b16)]) _
  refine own_st (fun t_ k_ => XS.iloadN X16.here hx rfl (hb hby at_42) rfl k_) ?_
  show own_Go p e below T16 (mkF m 43 #[.val (.int p0), .val (.int x0), .val (.int x1), .val (.int x2), .val (.int x3), .val (.int (1 : Int32)), .val (.ref b1), .val (.ref b16), .unset, .unset] [(.int x0), (.int (0 : Int32)), (.ref b16)]) _
  refine own_st (fun t_ k_ => XS.i2dS X16.here hx rfl (hb hby at_43) rfl rfl k_) ?_
  show own_Go p e below T16 (mkF m 44 #[.val (.int p0), .val (.int x0), .val (.int x1), .val (.int x2), .val (.int x3), .val (.int (1 : Int32)), .val (.ref b1), .val (.ref b16), .unset, .unset] [(.double (FP.i2d x0)), (.int (0 : Int32)), (.ref b16)]) _
  obtain ⟨cl18, Ar18, q18, Sz18, Nn18, Hh18, Gg18⟩ := id V16
  have hin18 : ¬ ((0 : Int32) < 0 ∨ cl18.slots.size ≤ ((0 : Int32)).toNatClampNeg) := inb_of Sz18 ⟨by decide, by decide⟩
  obtain ⟨T19, h19, X19, e19, W19, st19⟩ := stD X16 hx hZ e16 Ar18 (j := (0 : Int32)) hin18 (g := (mkF m 44 #[.val (.int p0), .val (.int x0), .val (.int x1), .val (.int x2), .val (.int x3), .val (.int (1 : Int32)), .val (.ref b1), .val (.ref b16), .unset, .unset] [(.double (FP.i2d x0)), (.int (0 : Int32)), (.ref b16)])) rfl rfl (hb hby at_44)
  have V19 : Arv Z h19 b16 k16 .double (1 : Int32) [(.double (FP.i2d x0))] (.double (0 : UInt64)) := Arv.set Ar18 q18 Sz18 Nn18 Hh18 Gg18 rfl W19 0 rfl (Nat.le_of_ble_eq_true rfl)
  have K20 : Keep h0 h19 [] := K17.wr W19 (Or.inr B16)
  have N19 := Fr.snoc X19 N13 G16
  refine own_st st19 ?_
  show own_Go p e below T19 (mkF m 45 #[.val (.int p0), .val (.int x0), .val (.int x1), .val (.int x2), .val (.int x3), .val (.int (1 : Int32)), .val (.ref b1), .val (.ref b16), .unset, .unset] []) _
  refine own_st (fun t_ k_ => XS.iload X19.here hx rfl (hb hby at_45) rfl k_) ?_
  show own_Go p e below T19 (mkF m 47 #[.val (.int p0), .val (.int x0), .val (.int x1), .val (.int x2), .val (.int x3), .val (.int (1 : Int32)), .val (.ref b1), .val (.ref b16), .unset, .unset] [(.int (1 : Int32))]) _
  refine own_st (fun t_ k_ => XS.iconst X19.here hx rfl (hb hby at_47) k_) ?_
  show own_Go p e below T19 (mkF m 48 #[.val (.int p0), .val (.int x0), .val (.int x1), .val (.int x2), .val (.int x3), .val (.int (1 : Int32)), .val (.ref b1), .val (.ref b16), .unset, .unset] [(.int (1 : Int32)), (.int (1 : Int32))]) _
  refine own_st (fun t_ k_ => XS.icmpYes X19.here hx rfl (pc0 := 48) (pc' := 57) rfl (hb hby at_48) rfl (by decide) (by decide) (by decide) k_) ?_
  show own_Go p e below T19 (mkF m 57 #[.val (.int p0), .val (.int x0), .val (.int x1), .val (.int x2), .val (.int x3), .val (.int (1 : Int32)), .val (.ref b1), .val (.ref b16), .unset, .unset] []) _
  refine own_st (fun t_ k_ => XS.iload X19.here hx rfl (hb hby at_57) rfl k_) ?_
  show own_Go p e below T19 (mkF m 59 #[.val (.int p0), .val (.int x0), .val (.int x1), .val (.int x2), .val (.int x3), .val (.int (1 : Int32)), .val (.ref b1), .val (.ref b16), .unset, .unset] [(.int (1 : Int32))]) _
  refine own_st (fun t_ k_ => XS.iconst X19.here hx rfl (hb hby at_59) k_) ?_
  show own_Go p e below T19 (mkF m 60 #[.val (.int p0), .val (.int x0), .val (.int x1), .val (.int x2), .val (.int x3), .val (.int (1 : Int32)), .val (.ref b1), .val (.ref b16), .unset, .unset] [(.int (2 : Int32)), (.int (1 : Int32))]) _
  refine own_st (fun t_ k_ => XS.icmpYes X19.here hx rfl (pc0 := 60) (pc' := 69) rfl (hb hby at_60) rfl (by decide) (by decide) (by decide) k_) ?_
  show own_Go p e below T19 (mkF m 69 #[.val (.int p0), .val (.int x0), .val (.int x1), .val (.int x2), .val (.int x3), .val (.int (1 : Int32)), .val (.ref b1), .val (.ref b16), .unset, .unset] []) _
  refine own_st (fun t_ k_ => XS.iload X19.here hx rfl (hb hby at_69) rfl k_) ?_
  show own_Go p e below T19 (mkF m 71 #[.val (.int p0), .val (.int x0), .val (.int x1), .val (.int x2), .val (.int x3), .val (.int (1 : Int32)), .val (.ref b1), .val (.ref b16), .unset, .unset] [(.int (1 : Int32))]) _
  refine own_st (fun t_ k_ => XS.iconst X19.here hx rfl (hb hby at_71) k_) ?_
  show own_Go p e below T19 (mkF m 72 #[.val (.int p0), .val (.int x0), .val (.int x1), .val (.int x2), .val (.int x3), .val (.int (1 : Int32)), .val (.ref b1), .val (.ref b16), .unset, .unset] [(.int (3 : Int32)), (.int (1 : Int32))]) _
  refine own_st (fun t_ k_ => XS.icmpYes X19.here hx rfl (pc0 := 72) (pc' := 82) rfl (hb hby at_72) rfl (by decide) (by decide) (by decide) k_) ?_
  show own_Go p e below T19 (mkF m 82 #[.val (.int p0), .val (.int x0), .val (.int x1), .val (.int x2), .val (.int x3), .val (.int (1 : Int32)), .val (.ref b1), .val (.ref b16), .unset, .unset] []) _
  refine own_st (fun t_ k_ => XS.aload X19.here hx rfl (hb hby at_82) rfl rfl k_) ?_
  show own_Go p e below T19 (mkF m 84 #[.val (.int p0), .val (.int x0), .val (.int x1), .val (.int x2), .val (.int x3), .val (.int (1 : Int32)), .val (.ref b1), .val (.ref b16), .unset, .unset] [(.ref b16)]) _
  have f21 := (Nat.le_trans (Nat.le_trans f15 E16.1) (Keep.of_wr W19).1)
  obtain ⟨_, _, ⟨T22, L22, k22, n22⟩, -, X22, ⟨Lc22, hQ22, l22, y22, z22⟩, st22⟩ := Jvm.LawKit.callS X19 hx (y := (⟨"com/example/spillback/spillback/behaviour/PlanSelector", "highest", "([D)I"⟩ : MethodName)) hown (mvT hZ (hw _ (List.mem_of_getElem? (i := 2) rfl))) (mvT hZ (hw _ (List.mem_of_getElem? (i := 3) rfl))) (mvT hZ (hw _ (List.mem_of_getElem? (i := 4) rfl))) (mvT hZ (hw _ (List.mem_of_getElem? (i := 5) rfl))) (by decide) (backOf (W := 0) (rmHi1 l Z a0 hw [] b16 k16 _ h19 n0 f21 V19) hZ (hw _ (List.mem_of_getElem? (i := 5) rfl)) (hw _ (List.mem_of_getElem? (i := 4) rfl)) (by decide) (by decide)) (g := (mkF m 84 #[.val (.int p0), .val (.int x0), .val (.int x1), .val (.int x2), .val (.int x3), .val (.int (1 : Int32)), .val (.ref b1), .val (.ref b16), .unset, .unset] [(.ref b16)])) rfl (by rw [hml]; rfl) (argsL := [(.ref b16)]) (rest := []) (lenOf pd___D_I rfl) rfl (by show 2 * 0 + _ ≤ _; exact Nat.le_of_eq rfl) (hb hby at_84) (fun _ _ => ⟨rfl, e19, (by decide : 2 + 0 ≤ _), (by decide : 5 + 0 ≤ _)⟩)
  dsimp only [Pt.U, Pt.locs, Pt.cells, Pt.slots] at X22 l22 y22 z22 st22 hQ22
  subst l22 y22 z22
  obtain ⟨r_22, rfl, Nq22, eH22, q22_0⟩ := hQ22
  have N22 := Fr.app N19 Nq22
  refine own_st st22 ?_
  show own_Go p e below T22 (mkF m 87 #[.val (.int p0), .val (.int x0), .val (.int x1), .val (.int x2), .val (.int x3), .val (.int (1 : Int32)), .val (.ref b1), .val (.ref b16), .unset, .unset] [(.int r_22)]) _
  have hy := q22_0
  obtain ⟨er_22, -⟩ := hy
  subst er_22
  show own_Go p e below T22 (mkF m 87 #[.val (.int p0), .val (.int x0), .val (.int x1), .val (.int x2), .val (.int x3), .val (.int (1 : Int32)), .val (.ref b1), .val (.ref b16), .unset, .unset] [(.int (0 : Int32))]) _
  refine own_st (fun t_ k_ => XS.istore X22.here hx rfl (hb hby at_87) rfl (l' := #[.val (.int p0), .val (.int x0), .val (.int x1), .val (.int x2), .val (.int x3), .val (.int (1 : Int32)), .val (.ref b1), .val (.ref b16), .val (.int (0 : Int32)), .unset]) rfl k_) ?_
  show own_Go p e below T22 (mkF m 89 #[.val (.int p0), .val (.int x0), .val (.int x1), .val (.int x2), .val (.int x3), .val (.int (1 : Int32)), .val (.ref b1), .val (.ref b16), .val (.int (0 : Int32)), .unset] []) _
  refine own_st (fun t_ k_ => XS.iload X22.here hx rfl (hb hby at_89) rfl k_) ?_
  show own_Go p e below T22 (mkF m 91 #[.val (.int p0), .val (.int x0), .val (.int x1), .val (.int x2), .val (.int x3), .val (.int (1 : Int32)), .val (.ref b1), .val (.ref b16), .val (.int (0 : Int32)), .unset] [(.int (0 : Int32))]) _
  refine own_st (fun t_ k_ => XS.ifNo X22.here hx rfl (hb hby at_91) rfl (by decide) k_) ?_
  show own_Go p e below T22 (mkF m 94 #[.val (.int p0), .val (.int x0), .val (.int x1), .val (.int x2), .val (.int x3), .val (.int (1 : Int32)), .val (.ref b1), .val (.ref b16), .val (.int (0 : Int32)), .unset] []) _
  refine own_st (fun t_ k_ => XS.iload X22.here hx rfl (hb hby at_94) rfl k_) ?_
  show own_Go p e below T22 (mkF m 96 #[.val (.int p0), .val (.int x0), .val (.int x1), .val (.int x2), .val (.int x3), .val (.int (1 : Int32)), .val (.ref b1), .val (.ref b16), .val (.int (0 : Int32)), .unset] [(.int (0 : Int32))]) _
  refine own_st (fun t_ k_ => XS.iload X22.here hx rfl (hb hby at_96) rfl k_) ?_
  show own_Go p e below T22 (mkF m 98 #[.val (.int p0), .val (.int x0), .val (.int x1), .val (.int x2), .val (.int x3), .val (.int (1 : Int32)), .val (.ref b1), .val (.ref b16), .val (.int (0 : Int32)), .unset] [(.int (1 : Int32)), (.int (0 : Int32))]) _
  refine own_st (fun t_ k_ => XS.icmpYes X22.here hx rfl (pc0 := 98) (pc' := 103) rfl (hb hby at_98) rfl (by decide) (by decide) (by decide) k_) ?_
  show own_Go p e below T22 (mkF m 103 #[.val (.int p0), .val (.int x0), .val (.int x1), .val (.int x2), .val (.int x3), .val (.int (1 : Int32)), .val (.ref b1), .val (.ref b16), .val (.int (0 : Int32)), .unset] []) _
  refine own_st (fun t_ k_ => XS.aload X22.here hx rfl (hb hby at_103) rfl rfl k_) ?_
  show own_Go p e below T22 (mkF m 105 #[.val (.int p0), .val (.int x0), .val (.int x1), .val (.int x2), .val (.int x3), .val (.int (1 : Int32)), .val (.ref b1), .val (.ref b16), .val (.int (0 : Int32)), .unset] [(.ref b1)]) _
  refine own_st (fun t_ k_ => XS.iload X22.here hx rfl (hb hby at_105) rfl k_) ?_
  show own_Go p e below T22 (mkF m 107 #[.val (.int p0), .val (.int x0), .val (.int x1), .val (.int x2), .val (.int x3), .val (.int (1 : Int32)), .val (.ref b1), .val (.ref b16), .val (.int (0 : Int32)), .unset] [(.int (0 : Int32)), (.ref b1)]) _
  have f23 := ((V13.ext E16).other W19 (Nat.ne_of_lt (Nat.lt_of_lt_of_le V13.lt (Nat.le_of_eq g16.symm))))
  obtain ⟨cl24, Ar24, q24, Sz24, Nn24, Hh24, Gg24⟩ := id f23
  have hin24 : ¬ ((0 : Int32) < 0 ∨ cl24.slots.size ≤ ((0 : Int32)).toNatClampNeg) := inb_of Sz24 ⟨by decide, by decide⟩
  have hat24 : cl24.slots[((0 : Int32)).toNatClampNeg]? = some (.int x0) := Has.at Hh24 hin24 rfl
  refine own_st (fun t_ k_ => X22.iaload hx (j := (0 : Int32)) (v := (.int x0)) (by rw [eH22]; exact Ar24.1) (State.isArrayOf_alike hZ.alike Ar24.2.1) Ar24.2.2 hin24 hat24 (g := (mkF m 107 #[.val (.int p0), .val (.int x0), .val (.int x1), .val (.int x2), .val (.int x3), .val (.int (1 : Int32)), .val (.ref b1), .val (.ref b16), .val (.int (0 : Int32)), .unset] [(.int (0 : Int32)), (.ref b1)])) rfl rfl (hb hby at_107) _ k_) ?_
  show own_Go p e below T22 (mkF m 108 #[.val (.int p0), .val (.int x0), .val (.int x1), .val (.int x2), .val (.int x3), .val (.int (1 : Int32)), .val (.ref b1), .val (.ref b16), .val (.int (0 : Int32)), .unset] [(.int x0)]) _
  refine own_st (fun t_ k_ => XS.istore X22.here hx rfl (hb hby at_108) rfl (l' := #[.val (.int p0), .val (.int x0), .val (.int x1), .val (.int x2), .val (.int x3), .val (.int (1 : Int32)), .val (.ref b1), .val (.ref b16), .val (.int (0 : Int32)), .val (.int x0)]) rfl k_) ?_
  show own_Go p e below T22 (mkF m 110 #[.val (.int p0), .val (.int x0), .val (.int x1), .val (.int x2), .val (.int x3), .val (.int (1 : Int32)), .val (.ref b1), .val (.ref b16), .val (.int (0 : Int32)), .val (.int x0)] []) _
  refine own_st (fun t_ k_ => XS.aload X22.here hx rfl (hb hby at_110) rfl rfl k_) ?_
  show own_Go p e below T22 (mkF m 112 #[.val (.int p0), .val (.int x0), .val (.int x1), .val (.int x2), .val (.int x3), .val (.int (1 : Int32)), .val (.ref b1), .val (.ref b16), .val (.int (0 : Int32)), .val (.int x0)] [(.ref b1)]) _
  refine own_st (fun t_ k_ => XS.iconst X22.here hx rfl (hb hby at_112) k_) ?_
  show own_Go p e below T22 (mkF m 113 #[.val (.int p0), .val (.int x0), .val (.int x1), .val (.int x2), .val (.int x3), .val (.int (1 : Int32)), .val (.ref b1), .val (.ref b16), .val (.int (0 : Int32)), .val (.int x0)] [(.int (0 : Int32)), (.ref b1)]) _
  refine own_st (fun t_ k_ => XS.iload X22.here hx rfl (hb hby at_113) rfl k_) ?_
  show own_Go p e below T22 (mkF m 115 #[.val (.int p0), .val (.int x0), .val (.int x1), .val (.int x2), .val (.int x3), .val (.int (1 : Int32)), .val (.ref b1), .val (.ref b16), .val (.int (0 : Int32)), .val (.int x0)] [(.int (1 : Int32)), (.int (0 : Int32)), (.ref b1)]) _
  refine own_st (fun t_ k_ => XS.iload X22.here hx rfl (hb hby at_115) rfl k_) ?_
  show own_Go p e below T22 (mkF m 117 #[.val (.int p0), .val (.int x0), .val (.int x1), .val (.int x2), .val (.int x3), .val (.int (1 : Int32)), .val (.ref b1), .val (.ref b16), .val (.int (0 : Int32)), .val (.int x0)] [(.int (0 : Int32)), (.int (1 : Int32)), (.int (0 : Int32)), (.ref b1)]) _
  refine own_st (fun t_ k_ => XS.iload X22.here hx rfl (hb hby at_117) rfl k_) ?_
  show own_Go p e below T22 (mkF m 119 #[.val (.int p0), .val (.int x0), .val (.int x1), .val (.int x2), .val (.int x3), .val (.int (1 : Int32)), .val (.ref b1), .val (.ref b16), .val (.int (0 : Int32)), .val (.int x0)] [(.int x0), (.int (0 : Int32)), (.int (1 : Int32)), (.int (0 : Int32)), (.ref b1)]) _
  obtain ⟨_, _, ⟨T25, L25, k25, n25⟩, -, X25, ⟨Lc25, hQ25, l25, y25, z25⟩, st25⟩ := Jvm.LawKit.callS X22 hx (y := (⟨"com/example/spillback/spillback/behaviour/PlanSelectorHighestPinLaw", "ok", "([IIIII)Z"⟩ : MethodName)) hown (mvT hZ (hw _ (List.mem_of_getElem? (i := 6) rfl))) (mvT hZ (hw _ (List.mem_of_getElem? (i := 7) rfl))) (mvT hZ (hw _ (List.mem_of_getElem? (i := 8) rfl))) (mvT hZ (hw _ (List.mem_of_getElem? (i := 9) rfl))) (by decide) (backOf (W := 0) (rmOk_0_1_0 l Z a0 hw [] b1 k1 x0 _ _ _ h19 n0 f21 f23) hZ (hw _ (List.mem_of_getElem? (i := 9) rfl)) (hw _ (List.mem_of_getElem? (i := 8) rfl)) (by decide) (by decide)) (g := (mkF m 119 #[.val (.int p0), .val (.int x0), .val (.int x1), .val (.int x2), .val (.int x3), .val (.int (1 : Int32)), .val (.ref b1), .val (.ref b16), .val (.int (0 : Int32)), .val (.int x0)] [(.int x0), (.int (0 : Int32)), (.int (1 : Int32)), (.int (0 : Int32)), (.ref b1)])) rfl (by rw [hml]; rfl) (argsL := [(.ref b1), (.int (0 : Int32)), (.int (1 : Int32)), (.int (0 : Int32)), (.int x0)]) (rest := []) (lenOf pd___IIIII_Z rfl) rfl (by show 2 * 0 + _ ≤ _; exact Nat.le_of_eq rfl) (hb hby at_119) (fun _ _ => ⟨rfl, eH22, (by decide : 2 + 0 ≤ _), (by decide : 5 + 0 ≤ _)⟩)
  dsimp only [Pt.U, Pt.locs, Pt.cells, Pt.slots] at X25 l25 y25 z25 st25 hQ25
  subst l25 y25 z25
  obtain ⟨rfl, Nq25, eH25⟩ := hQ25
  have N25 := Fr.app N22 Nq25
  refine own_st st25 ?_
  show own_Go p e below T25 (mkF m 122 #[.val (.int p0), .val (.int x0), .val (.int x1), .val (.int x2), .val (.int x3), .val (.int (1 : Int32)), .val (.ref b1), .val (.ref b16), .val (.int (0 : Int32)), .val (.int x0)] [(.int (1 : Int32))]) _
  refine own_st (fun t_ k_ => XS.ifNo X25.here hx rfl (hb hby at_122) rfl (by decide) k_) ?_
  show own_Go p e below T25 (mkF m 125 #[.val (.int p0), .val (.int x0), .val (.int x1), .val (.int x2), .val (.int x3), .val (.int (1 : Int32)), .val (.ref b1), .val (.ref b16), .val (.int (0 : Int32)), .val (.int x0)] []) _
  refine own_st (fun t_ k_ => XS.aload X25.here hx rfl (hb hby at_125) rfl rfl k_) ?_
  show own_Go p e below T25 (mkF m 127 #[.val (.int p0), .val (.int x0), .val (.int x1), .val (.int x2), .val (.int x3), .val (.int (1 : Int32)), .val (.ref b1), .val (.ref b16), .val (.int (0 : Int32)), .val (.int x0)] [(.ref b1)]) _
  refine own_st (fun t_ k_ => XS.iconst X25.here hx rfl (hb hby at_127) k_) ?_
  show own_Go p e below T25 (mkF m 128 #[.val (.int p0), .val (.int x0), .val (.int x1), .val (.int x2), .val (.int x3), .val (.int (1 : Int32)), .val (.ref b1), .val (.ref b16), .val (.int (0 : Int32)), .val (.int x0)] [(.int (1 : Int32)), (.ref b1)]) _
  refine own_st (fun t_ k_ => XS.iload X25.here hx rfl (hb hby at_128) rfl k_) ?_
  show own_Go p e below T25 (mkF m 130 #[.val (.int p0), .val (.int x0), .val (.int x1), .val (.int x2), .val (.int x3), .val (.int (1 : Int32)), .val (.ref b1), .val (.ref b16), .val (.int (0 : Int32)), .val (.int x0)] [(.int (1 : Int32)), (.int (1 : Int32)), (.ref b1)]) _
  refine own_st (fun t_ k_ => XS.iload X25.here hx rfl (hb hby at_130) rfl k_) ?_
  show own_Go p e below T25 (mkF m 132 #[.val (.int p0), .val (.int x0), .val (.int x1), .val (.int x2), .val (.int x3), .val (.int (1 : Int32)), .val (.ref b1), .val (.ref b16), .val (.int (0 : Int32)), .val (.int x0)] [(.int (0 : Int32)), (.int (1 : Int32)), (.int (1 : Int32)), (.ref b1)]) _
  refine own_st (fun t_ k_ => XS.iload X25.here hx rfl (hb hby at_132) rfl k_) ?_
  show own_Go p e below T25 (mkF m 134 #[.val (.int p0), .val (.int x0), .val (.int x1), .val (.int x2), .val (.int x3), .val (.int (1 : Int32)), .val (.ref b1), .val (.ref b16), .val (.int (0 : Int32)), .val (.int x0)] [(.int x0), (.int (0 : Int32)), (.int (1 : Int32)), (.int (1 : Int32)), (.ref b1)]) _
  obtain ⟨_, _, ⟨T26, L26, k26, n26⟩, -, X26, ⟨Lc26, hQ26, l26, y26, z26⟩, st26⟩ := Jvm.LawKit.callS X25 hx (y := (⟨"com/example/spillback/spillback/behaviour/PlanSelectorHighestPinLaw", "ok", "([IIIII)Z"⟩ : MethodName)) hown (mvT hZ (hw _ (List.mem_of_getElem? (i := 6) rfl))) (mvT hZ (hw _ (List.mem_of_getElem? (i := 7) rfl))) (mvT hZ (hw _ (List.mem_of_getElem? (i := 8) rfl))) (mvT hZ (hw _ (List.mem_of_getElem? (i := 9) rfl))) (by decide) (backOf (W := 0) (rmOk_1_1_0 l Z a0 hw [] b1 k1 x0 _ _ _ h19 n0 f21 f23) hZ (hw _ (List.mem_of_getElem? (i := 9) rfl)) (hw _ (List.mem_of_getElem? (i := 8) rfl)) (by decide) (by decide)) (g := (mkF m 134 #[.val (.int p0), .val (.int x0), .val (.int x1), .val (.int x2), .val (.int x3), .val (.int (1 : Int32)), .val (.ref b1), .val (.ref b16), .val (.int (0 : Int32)), .val (.int x0)] [(.int x0), (.int (0 : Int32)), (.int (1 : Int32)), (.int (1 : Int32)), (.ref b1)])) rfl (by rw [hml]; rfl) (argsL := [(.ref b1), (.int (1 : Int32)), (.int (1 : Int32)), (.int (0 : Int32)), (.int x0)]) (rest := []) (lenOf pd___IIIII_Z rfl) rfl (by show 2 * 0 + _ ≤ _; exact Nat.le_of_eq rfl) (hb hby at_134) (fun _ _ => ⟨rfl, eH25, (by decide : 2 + 0 ≤ _), (by decide : 5 + 0 ≤ _)⟩)
  dsimp only [Pt.U, Pt.locs, Pt.cells, Pt.slots] at X26 l26 y26 z26 st26 hQ26
  subst l26 y26 z26
  obtain ⟨rfl, Nq26, eH26⟩ := hQ26
  have N26 := Fr.app N25 Nq26
  refine own_st st26 ?_
  show own_Go p e below T26 (mkF m 137 #[.val (.int p0), .val (.int x0), .val (.int x1), .val (.int x2), .val (.int x3), .val (.int (1 : Int32)), .val (.ref b1), .val (.ref b16), .val (.int (0 : Int32)), .val (.int x0)] [(.int (1 : Int32))]) _
  refine own_st (fun t_ k_ => XS.ifNo X26.here hx rfl (hb hby at_137) rfl (by decide) k_) ?_
  show own_Go p e below T26 (mkF m 140 #[.val (.int p0), .val (.int x0), .val (.int x1), .val (.int x2), .val (.int x3), .val (.int (1 : Int32)), .val (.ref b1), .val (.ref b16), .val (.int (0 : Int32)), .val (.int x0)] []) _
  refine own_st (fun t_ k_ => XS.aload X26.here hx rfl (hb hby at_140) rfl rfl k_) ?_
  show own_Go p e below T26 (mkF m 142 #[.val (.int p0), .val (.int x0), .val (.int x1), .val (.int x2), .val (.int x3), .val (.int (1 : Int32)), .val (.ref b1), .val (.ref b16), .val (.int (0 : Int32)), .val (.int x0)] [(.ref b1)]) _
  refine own_st (fun t_ k_ => XS.iconst X26.here hx rfl (hb hby at_142) k_) ?_
  show own_Go p e below T26 (mkF m 143 #[.val (.int p0), .val (.int x0), .val (.int x1), .val (.int x2), .val (.int x3), .val (.int (1 : Int32)), .val (.ref b1), .val (.ref b16), .val (.int (0 : Int32)), .val (.int x0)] [(.int (2 : Int32)), (.ref b1)]) _
  refine own_st (fun t_ k_ => XS.iload X26.here hx rfl (hb hby at_143) rfl k_) ?_
  show own_Go p e below T26 (mkF m 145 #[.val (.int p0), .val (.int x0), .val (.int x1), .val (.int x2), .val (.int x3), .val (.int (1 : Int32)), .val (.ref b1), .val (.ref b16), .val (.int (0 : Int32)), .val (.int x0)] [(.int (1 : Int32)), (.int (2 : Int32)), (.ref b1)]) _
  refine own_st (fun t_ k_ => XS.iload X26.here hx rfl (hb hby at_145) rfl k_) ?_
  show own_Go p e below T26 (mkF m 147 #[.val (.int p0), .val (.int x0), .val (.int x1), .val (.int x2), .val (.int x3), .val (.int (1 : Int32)), .val (.ref b1), .val (.ref b16), .val (.int (0 : Int32)), .val (.int x0)] [(.int (0 : Int32)), (.int (1 : Int32)), (.int (2 : Int32)), (.ref b1)]) _
  refine own_st (fun t_ k_ => XS.iload X26.here hx rfl (hb hby at_147) rfl k_) ?_
  show own_Go p e below T26 (mkF m 149 #[.val (.int p0), .val (.int x0), .val (.int x1), .val (.int x2), .val (.int x3), .val (.int (1 : Int32)), .val (.ref b1), .val (.ref b16), .val (.int (0 : Int32)), .val (.int x0)] [(.int x0), (.int (0 : Int32)), (.int (1 : Int32)), (.int (2 : Int32)), (.ref b1)]) _
  obtain ⟨_, _, ⟨T27, L27, k27, n27⟩, -, X27, ⟨Lc27, hQ27, l27, y27, z27⟩, st27⟩ := Jvm.LawKit.callS X26 hx (y := (⟨"com/example/spillback/spillback/behaviour/PlanSelectorHighestPinLaw", "ok", "([IIIII)Z"⟩ : MethodName)) hown (mvT hZ (hw _ (List.mem_of_getElem? (i := 6) rfl))) (mvT hZ (hw _ (List.mem_of_getElem? (i := 7) rfl))) (mvT hZ (hw _ (List.mem_of_getElem? (i := 8) rfl))) (mvT hZ (hw _ (List.mem_of_getElem? (i := 9) rfl))) (by decide) (backOf (W := 0) (rmOk_2_1_0 l Z a0 hw [] b1 k1 x0 _ _ _ h19 n0 f21 f23) hZ (hw _ (List.mem_of_getElem? (i := 9) rfl)) (hw _ (List.mem_of_getElem? (i := 8) rfl)) (by decide) (by decide)) (g := (mkF m 149 #[.val (.int p0), .val (.int x0), .val (.int x1), .val (.int x2), .val (.int x3), .val (.int (1 : Int32)), .val (.ref b1), .val (.ref b16), .val (.int (0 : Int32)), .val (.int x0)] [(.int x0), (.int (0 : Int32)), (.int (1 : Int32)), (.int (2 : Int32)), (.ref b1)])) rfl (by rw [hml]; rfl) (argsL := [(.ref b1), (.int (2 : Int32)), (.int (1 : Int32)), (.int (0 : Int32)), (.int x0)]) (rest := []) (lenOf pd___IIIII_Z rfl) rfl (by show 2 * 0 + _ ≤ _; exact Nat.le_of_eq rfl) (hb hby at_149) (fun _ _ => ⟨rfl, eH26, (by decide : 2 + 0 ≤ _), (by decide : 5 + 0 ≤ _)⟩)
  dsimp only [Pt.U, Pt.locs, Pt.cells, Pt.slots] at X27 l27 y27 z27 st27 hQ27
  subst l27 y27 z27
  obtain ⟨rfl, Nq27, eH27⟩ := hQ27
  have N27 := Fr.app N26 Nq27
  refine own_st st27 ?_
  show own_Go p e below T27 (mkF m 152 #[.val (.int p0), .val (.int x0), .val (.int x1), .val (.int x2), .val (.int x3), .val (.int (1 : Int32)), .val (.ref b1), .val (.ref b16), .val (.int (0 : Int32)), .val (.int x0)] [(.int (1 : Int32))]) _
  refine own_st (fun t_ k_ => XS.ifNo X27.here hx rfl (hb hby at_152) rfl (by decide) k_) ?_
  show own_Go p e below T27 (mkF m 155 #[.val (.int p0), .val (.int x0), .val (.int x1), .val (.int x2), .val (.int x3), .val (.int (1 : Int32)), .val (.ref b1), .val (.ref b16), .val (.int (0 : Int32)), .val (.int x0)] []) _
  refine own_st (fun t_ k_ => XS.aload X27.here hx rfl (hb hby at_155) rfl rfl k_) ?_
  show own_Go p e below T27 (mkF m 157 #[.val (.int p0), .val (.int x0), .val (.int x1), .val (.int x2), .val (.int x3), .val (.int (1 : Int32)), .val (.ref b1), .val (.ref b16), .val (.int (0 : Int32)), .val (.int x0)] [(.ref b1)]) _
  refine own_st (fun t_ k_ => XS.iconst X27.here hx rfl (hb hby at_157) k_) ?_
  show own_Go p e below T27 (mkF m 158 #[.val (.int p0), .val (.int x0), .val (.int x1), .val (.int x2), .val (.int x3), .val (.int (1 : Int32)), .val (.ref b1), .val (.ref b16), .val (.int (0 : Int32)), .val (.int x0)] [(.int (3 : Int32)), (.ref b1)]) _
  refine own_st (fun t_ k_ => XS.iload X27.here hx rfl (hb hby at_158) rfl k_) ?_
  show own_Go p e below T27 (mkF m 160 #[.val (.int p0), .val (.int x0), .val (.int x1), .val (.int x2), .val (.int x3), .val (.int (1 : Int32)), .val (.ref b1), .val (.ref b16), .val (.int (0 : Int32)), .val (.int x0)] [(.int (1 : Int32)), (.int (3 : Int32)), (.ref b1)]) _
  refine own_st (fun t_ k_ => XS.iload X27.here hx rfl (hb hby at_160) rfl k_) ?_
  show own_Go p e below T27 (mkF m 162 #[.val (.int p0), .val (.int x0), .val (.int x1), .val (.int x2), .val (.int x3), .val (.int (1 : Int32)), .val (.ref b1), .val (.ref b16), .val (.int (0 : Int32)), .val (.int x0)] [(.int (0 : Int32)), (.int (1 : Int32)), (.int (3 : Int32)), (.ref b1)]) _
  refine own_st (fun t_ k_ => XS.iload X27.here hx rfl (hb hby at_162) rfl k_) ?_
  show own_Go p e below T27 (mkF m 164 #[.val (.int p0), .val (.int x0), .val (.int x1), .val (.int x2), .val (.int x3), .val (.int (1 : Int32)), .val (.ref b1), .val (.ref b16), .val (.int (0 : Int32)), .val (.int x0)] [(.int x0), (.int (0 : Int32)), (.int (1 : Int32)), (.int (3 : Int32)), (.ref b1)]) _
  obtain ⟨_, _, ⟨T28, L28, k28, n28⟩, -, X28, ⟨Lc28, hQ28, l28, y28, z28⟩, st28⟩ := Jvm.LawKit.callS X27 hx (y := (⟨"com/example/spillback/spillback/behaviour/PlanSelectorHighestPinLaw", "ok", "([IIIII)Z"⟩ : MethodName)) hown (mvT hZ (hw _ (List.mem_of_getElem? (i := 6) rfl))) (mvT hZ (hw _ (List.mem_of_getElem? (i := 7) rfl))) (mvT hZ (hw _ (List.mem_of_getElem? (i := 8) rfl))) (mvT hZ (hw _ (List.mem_of_getElem? (i := 9) rfl))) (by decide) (backOf (W := 0) (rmOk_3_1_0 l Z a0 hw [] b1 k1 x0 _ _ _ h19 n0 f21 f23) hZ (hw _ (List.mem_of_getElem? (i := 9) rfl)) (hw _ (List.mem_of_getElem? (i := 8) rfl)) (by decide) (by decide)) (g := (mkF m 164 #[.val (.int p0), .val (.int x0), .val (.int x1), .val (.int x2), .val (.int x3), .val (.int (1 : Int32)), .val (.ref b1), .val (.ref b16), .val (.int (0 : Int32)), .val (.int x0)] [(.int x0), (.int (0 : Int32)), (.int (1 : Int32)), (.int (3 : Int32)), (.ref b1)])) rfl (by rw [hml]; rfl) (argsL := [(.ref b1), (.int (3 : Int32)), (.int (1 : Int32)), (.int (0 : Int32)), (.int x0)]) (rest := []) (lenOf pd___IIIII_Z rfl) rfl (by show 2 * 0 + _ ≤ _; exact Nat.le_of_eq rfl) (hb hby at_164) (fun _ _ => ⟨rfl, eH27, (by decide : 2 + 0 ≤ _), (by decide : 5 + 0 ≤ _)⟩)
  dsimp only [Pt.U, Pt.locs, Pt.cells, Pt.slots] at X28 l28 y28 z28 st28 hQ28
  subst l28 y28 z28
  obtain ⟨rfl, Nq28, eH28⟩ := hQ28
  have N28 := Fr.app N27 Nq28
  refine own_st st28 ?_
  show own_Go p e below T28 (mkF m 167 #[.val (.int p0), .val (.int x0), .val (.int x1), .val (.int x2), .val (.int x3), .val (.int (1 : Int32)), .val (.ref b1), .val (.ref b16), .val (.int (0 : Int32)), .val (.int x0)] [(.int (1 : Int32))]) _
  refine own_st (fun t_ k_ => XS.ifNo X28.here hx rfl (hb hby at_167) rfl (by decide) k_) ?_
  show own_Go p e below T28 (mkF m 170 #[.val (.int p0), .val (.int x0), .val (.int x1), .val (.int x2), .val (.int x3), .val (.int (1 : Int32)), .val (.ref b1), .val (.ref b16), .val (.int (0 : Int32)), .val (.int x0)] []) _
  refine own_st (fun t_ k_ => XS.iconst X28.here hx rfl (hb hby at_170) k_) ?_
  show own_Go p e below T28 (mkF m 171 #[.val (.int p0), .val (.int x0), .val (.int x1), .val (.int x2), .val (.int x3), .val (.int (1 : Int32)), .val (.ref b1), .val (.ref b16), .val (.int (0 : Int32)), .val (.int x0)] [(.int (1 : Int32))]) _
  refine own_st (fun t_ k_ => XS.goto X28.here hx rfl (pc0 := 171) (pc' := 175) rfl (hb hby at_171) (by decide) (by decide) k_) ?_
  show own_Go p e below T28 (mkF m 175 #[.val (.int p0), .val (.int x0), .val (.int x1), .val (.int x2), .val (.int x3), .val (.int (1 : Int32)), .val (.ref b1), .val (.ref b16), .val (.int (0 : Int32)), .val (.int x0)] [(.int (1 : Int32))]) _
  obtain ⟨fs, hr, hrun, hended, hW, hsame⟩ := X28.leave (v := some (.int (1 : Int32))) (fun h => by rw [Bd.returns] at h; cases h)
  refine own_fin (retN X28 hx (t := .boolean) Bd.returns (by simp) (hb hby at_175) hr) ⟨hrun, hended, _, _, rfl, ?_, ⟨_, rfl⟩, hW, hsame.mono (by decide) (by decide)⟩
  show Q_rmLaw1 Z p0 x0 x1 x2 x3 h0 n0 _ T28.heap _
  rw [eH28]
  exact ⟨rfl, N28, K20⟩
theorem ef_rmOk_0_2_0 (m : MethodId) (x0 : Addr) (x1 : Int32) (x2 : Int32) (x3 : Int32) (x4 : Int32) : entryFrame m #[(.ref x0), (.int x1), (.int x2), (.int x3), (.int x4)] 5 = mkF m 0 #[.val (.ref x0), .val (.int x1), .val (.int x2), .val (.int x3), .val (.int x4)] [] := by first | (simp [entryFrame, mkF, argsToLocals, Value.category]; done) | rfl
def Q_rmOk_0_2_0 (Z : State) (a1 : Addr) (ki : ClassId) (x0 : Int32) (x1 : Int32) (x2 : Int32) (x3 : Int32) (h0 : Heap) (n0 : Nat) (v : Option Value) (h : Heap) (L : List Loc) : Prop := v = some (.int (1 : Int32)) ∧ Fr n0 L ∧ h = h0
set_option maxRecDepth 65536 in
set_option maxHeartbeats 40000000 in
theorem rmOk_0_2_0 (l : Launch) (Z : State) (a0 : Array Value) (hw : ∀ d ∈ tables_1, d.before a0 Z = true) (ws : List Jvm.Cond) (a1 : Addr) (ki : ClassId) (x0 : Int32) (x1 : Int32) (x2 : Int32) (x3 : Int32) (h0 : Heap) (n0 : Nat) (Z0 : n0 ≤ h0.size) (pV_a1 : Arv Z h0 a1 ki .int (4 : Int32) [(.int x0), (.int x1), (.int x2), (.int x3)] (.int (0 : Int32))) :
    MetFree l (⟨"com/example/spillback/spillback/behaviour/PlanSelectorHighestPinLaw", "ok", "([IIIII)Z"⟩ : MethodName) (head1 (Jvm.Cond.code (⟨"com/example/spillback/spillback/behaviour/PlanSelectorHighestPinLaw", "ok", "([IIIII)Z"⟩ : MethodName) method_3_code 5 (some .boolean) :: ws) ({ frames := 0, cells := 0, slots := 0, locals := 0 } : Room)) (fun a U => a = #[(.ref a1), (.int (0 : Int32)), (.int (2 : Int32)), (.int (0 : Int32)), (.int x0)] ∧ Z.Warmed39 U.vm ∧ U.heap = h0) (fun _ _ _ _ _ => True) (fun _ U o U' => ∃ v L, o = .returned v ∧ Q_rmOk_0_2_0 Z a1 ki x0 x1 x2 x3 h0 n0 v U'.heap L ∧ FrameEnd U o U' L ({ frames := 0, cells := 0, slots := 0, locals := 0 } : Room).cells ({ frames := 0, cells := 0, slots := 0, locals := 0 } : Room).slots) := by
  refine MetFree.of_bodySF (plainFor_of_name pn_2) hisR ?_
  intro p e s m args below meth c s₁ Bd hml0 hP hK
  obtain ⟨rfl, hZ, hh⟩ := hP
  have hx := Bd.exec
  have hby := Bd.bytes
  have hml : c.maxLocals = 5 := hml0
  have hown : s.vm.findClass "com/example/spillback/spillback/behaviour/PlanSelectorHighestPinLaw" = some m.cls := findClass_of_methodNamed Bd.named
  have hnm := (name_of_methodNamed Bd.named Bd.method).1
  have X0 : Stand p l e ({ frames := 0, cells := 0, slots := 0, locals := 0 } : Room) s m #[(.ref a1), (.int (0 : Int32)), (.int (2 : Int32)), (.int (0 : Int32)), (.int x0)] below meth c s₁ [] 0 0 := Stand.of_body Bd
  have e0 : s₁.heap = h0 := by rw [← hh, Bd.state]; rfl
  have N0 := Fr.nil n0
  refine own_enter (ef_rmOk_0_2_0 m a1 ((0 : Int32)) ((2 : Int32)) ((0 : Int32)) x0) ?_
  have hn : ¬ (x0 < x0) := by rw [Int32.lt_iff_toInt_lt]; omega
  refine own_st (fun t_ k_ => XS.iloadN X0.here hx rfl (hb hby d2_0) rfl k_) ?_
  show own_Go p e below s₁ (mkF m 1 #[.val (.ref a1), .val (.int (0 : Int32)), .val (.int (2 : Int32)), .val (.int (0 : Int32)), .val (.int x0)] [(.int (0 : Int32))]) _
  refine own_st (fun t_ k_ => XS.iloadN X0.here hx rfl (hb hby d2_1) rfl k_) ?_
  show own_Go p e below s₁ (mkF m 2 #[.val (.ref a1), .val (.int (0 : Int32)), .val (.int (2 : Int32)), .val (.int (0 : Int32)), .val (.int x0)] [(.int (2 : Int32)), (.int (0 : Int32))]) _
  refine own_st (fun t_ k_ => XS.icmpYes X0.here hx rfl (pc0 := 2) (pc' := 7) rfl (hb hby d2_2) rfl (by decide) (by decide) (by decide) k_) ?_
  show own_Go p e below s₁ (mkF m 7 #[.val (.ref a1), .val (.int (0 : Int32)), .val (.int (2 : Int32)), .val (.int (0 : Int32)), .val (.int x0)] []) _
  refine own_st (fun t_ k_ => XS.aloadN X0.here hx rfl (hb hby d2_7) rfl rfl k_) ?_
  show own_Go p e below s₁ (mkF m 8 #[.val (.ref a1), .val (.int (0 : Int32)), .val (.int (2 : Int32)), .val (.int (0 : Int32)), .val (.int x0)] [(.ref a1)]) _
  refine own_st (fun t_ k_ => XS.iloadN X0.here hx rfl (hb hby d2_8) rfl k_) ?_
  show own_Go p e below s₁ (mkF m 9 #[.val (.ref a1), .val (.int (0 : Int32)), .val (.int (2 : Int32)), .val (.int (0 : Int32)), .val (.int x0)] [(.int (0 : Int32)), (.ref a1)]) _
  obtain ⟨cl1, Ar1, q1, Sz1, Nn1, Hh1, Gg1⟩ := id pV_a1
  have hin1 : ¬ ((0 : Int32) < 0 ∨ cl1.slots.size ≤ ((0 : Int32)).toNatClampNeg) := inb_of Sz1 ⟨by decide, by decide⟩
  have hat1 : cl1.slots[((0 : Int32)).toNatClampNeg]? = some (.int x0) := Has.at Hh1 hin1 rfl
  refine own_st (fun t_ k_ => X0.iaload hx (j := (0 : Int32)) (v := (.int x0)) (by rw [e0]; exact Ar1.1) (State.isArrayOf_alike hZ.alike Ar1.2.1) Ar1.2.2 hin1 hat1 (g := (mkF m 9 #[.val (.ref a1), .val (.int (0 : Int32)), .val (.int (2 : Int32)), .val (.int (0 : Int32)), .val (.int x0)] [(.int (0 : Int32)), (.ref a1)])) rfl rfl (hb hby d2_9) _ k_) ?_
  show own_Go p e below s₁ (mkF m 10 #[.val (.ref a1), .val (.int (0 : Int32)), .val (.int (2 : Int32)), .val (.int (0 : Int32)), .val (.int x0)] [(.int x0)]) _
  refine own_st (fun t_ k_ => XS.iload X0.here hx rfl (hb hby d2_10) rfl k_) ?_
  show own_Go p e below s₁ (mkF m 12 #[.val (.ref a1), .val (.int (0 : Int32)), .val (.int (2 : Int32)), .val (.int (0 : Int32)), .val (.int x0)] [(.int x0), (.int x0)]) _
  refine own_st (fun t_ k_ => XS.icmpYes X0.here hx rfl (pc0 := 12) (pc' := 17) rfl (hb hby d2_12) rfl (flt hn).2.2.2 (by decide) (by decide) k_) ?_
  show own_Go p e below s₁ (mkF m 17 #[.val (.ref a1), .val (.int (0 : Int32)), .val (.int (2 : Int32)), .val (.int (0 : Int32)), .val (.int x0)] []) _
  refine own_st (fun t_ k_ => XS.iloadN X0.here hx rfl (hb hby d2_17) rfl k_) ?_
  show own_Go p e below s₁ (mkF m 18 #[.val (.ref a1), .val (.int (0 : Int32)), .val (.int (2 : Int32)), .val (.int (0 : Int32)), .val (.int x0)] [(.int (0 : Int32))]) _
  refine own_st (fun t_ k_ => XS.iloadN X0.here hx rfl (hb hby d2_18) rfl k_) ?_
  show own_Go p e below s₁ (mkF m 19 #[.val (.ref a1), .val (.int (0 : Int32)), .val (.int (2 : Int32)), .val (.int (0 : Int32)), .val (.int x0)] [(.int (0 : Int32)), (.int (0 : Int32))]) _
  refine own_st (fun t_ k_ => XS.icmpYes X0.here hx rfl (pc0 := 19) (pc' := 32) rfl (hb hby d2_19) rfl (by decide) (by decide) (by decide) k_) ?_
  show own_Go p e below s₁ (mkF m 32 #[.val (.ref a1), .val (.int (0 : Int32)), .val (.int (2 : Int32)), .val (.int (0 : Int32)), .val (.int x0)] []) _
  refine own_st (fun t_ k_ => XS.iconst X0.here hx rfl (hb hby d2_32) k_) ?_
  show own_Go p e below s₁ (mkF m 33 #[.val (.ref a1), .val (.int (0 : Int32)), .val (.int (2 : Int32)), .val (.int (0 : Int32)), .val (.int x0)] [(.int (1 : Int32))]) _
  obtain ⟨fs, hr, hrun, hended, hW, hsame⟩ := X0.leave (v := some (.int (1 : Int32))) (fun h => by rw [Bd.returns] at h; cases h)
  refine own_fin (retN X0 hx (t := .boolean) Bd.returns (by simp) (hb hby d2_33) hr) ⟨hrun, hended, _, _, rfl, ?_, ⟨_, rfl⟩, hW, hsame.mono (by decide) (by decide)⟩
  show Q_rmOk_0_2_0 Z a1 ki x0 x1 x2 x3 h0 n0 _ s₁.heap _
  rw [e0]
  exact ⟨rfl, N0, rfl⟩
theorem ef_rmOk_1_2_0 (m : MethodId) (x0 : Addr) (x1 : Int32) (x2 : Int32) (x3 : Int32) (x4 : Int32) : entryFrame m #[(.ref x0), (.int x1), (.int x2), (.int x3), (.int x4)] 5 = mkF m 0 #[.val (.ref x0), .val (.int x1), .val (.int x2), .val (.int x3), .val (.int x4)] [] := by first | (simp [entryFrame, mkF, argsToLocals, Value.category]; done) | rfl
def Q_rmOk_1_2_0 (Z : State) (a1 : Addr) (ki : ClassId) (x0 : Int32) (x1 : Int32) (x2 : Int32) (x3 : Int32) (h0 : Heap) (n0 : Nat) (v : Option Value) (h : Heap) (L : List Loc) : Prop := v = some (.int (1 : Int32)) ∧ Fr n0 L ∧ h = h0
set_option maxRecDepth 65536 in
set_option maxHeartbeats 40000000 in
theorem rmOk_1_2_0 (l : Launch) (Z : State) (a0 : Array Value) (hw : ∀ d ∈ tables_1, d.before a0 Z = true) (ws : List Jvm.Cond) (a1 : Addr) (ki : ClassId) (x0 : Int32) (x1 : Int32) (x2 : Int32) (x3 : Int32) (h0 : Heap) (n0 : Nat) (Z0 : n0 ≤ h0.size) (pV_a1 : Arv Z h0 a1 ki .int (4 : Int32) [(.int x0), (.int x1), (.int x2), (.int x3)] (.int (0 : Int32))) (hle : (x1.toInt ≤ x0.toInt)) :
    MetFree l (⟨"com/example/spillback/spillback/behaviour/PlanSelectorHighestPinLaw", "ok", "([IIIII)Z"⟩ : MethodName) (head1 (Jvm.Cond.code (⟨"com/example/spillback/spillback/behaviour/PlanSelectorHighestPinLaw", "ok", "([IIIII)Z"⟩ : MethodName) method_3_code 5 (some .boolean) :: ws) ({ frames := 0, cells := 0, slots := 0, locals := 0 } : Room)) (fun a U => a = #[(.ref a1), (.int (1 : Int32)), (.int (2 : Int32)), (.int (0 : Int32)), (.int x0)] ∧ Z.Warmed39 U.vm ∧ U.heap = h0) (fun _ _ _ _ _ => True) (fun _ U o U' => ∃ v L, o = .returned v ∧ Q_rmOk_1_2_0 Z a1 ki x0 x1 x2 x3 h0 n0 v U'.heap L ∧ FrameEnd U o U' L ({ frames := 0, cells := 0, slots := 0, locals := 0 } : Room).cells ({ frames := 0, cells := 0, slots := 0, locals := 0 } : Room).slots) := by
  refine MetFree.of_bodySF (plainFor_of_name pn_2) hisR ?_
  intro p e s m args below meth c s₁ Bd hml0 hP hK
  obtain ⟨rfl, hZ, hh⟩ := hP
  have hx := Bd.exec
  have hby := Bd.bytes
  have hml : c.maxLocals = 5 := hml0
  have hown : s.vm.findClass "com/example/spillback/spillback/behaviour/PlanSelectorHighestPinLaw" = some m.cls := findClass_of_methodNamed Bd.named
  have hnm := (name_of_methodNamed Bd.named Bd.method).1
  have X0 : Stand p l e ({ frames := 0, cells := 0, slots := 0, locals := 0 } : Room) s m #[(.ref a1), (.int (1 : Int32)), (.int (2 : Int32)), (.int (0 : Int32)), (.int x0)] below meth c s₁ [] 0 0 := Stand.of_body Bd
  have e0 : s₁.heap = h0 := by rw [← hh, Bd.state]; rfl
  have N0 := Fr.nil n0
  refine own_enter (ef_rmOk_1_2_0 m a1 ((1 : Int32)) ((2 : Int32)) ((0 : Int32)) x0) ?_
  have hn : ¬ (x0 < x1) := by rw [Int32.lt_iff_toInt_lt]; omega
  refine own_st (fun t_ k_ => XS.iloadN X0.here hx rfl (hb hby d2_0) rfl k_) ?_
  show own_Go p e below s₁ (mkF m 1 #[.val (.ref a1), .val (.int (1 : Int32)), .val (.int (2 : Int32)), .val (.int (0 : Int32)), .val (.int x0)] [(.int (1 : Int32))]) _
  refine own_st (fun t_ k_ => XS.iloadN X0.here hx rfl (hb hby d2_1) rfl k_) ?_
  show own_Go p e below s₁ (mkF m 2 #[.val (.ref a1), .val (.int (1 : Int32)), .val (.int (2 : Int32)), .val (.int (0 : Int32)), .val (.int x0)] [(.int (2 : Int32)), (.int (1 : Int32))]) _
  refine own_st (fun t_ k_ => XS.icmpYes X0.here hx rfl (pc0 := 2) (pc' := 7) rfl (hb hby d2_2) rfl (by decide) (by decide) (by decide) k_) ?_
  show own_Go p e below s₁ (mkF m 7 #[.val (.ref a1), .val (.int (1 : Int32)), .val (.int (2 : Int32)), .val (.int (0 : Int32)), .val (.int x0)] []) _
  refine own_st (fun t_ k_ => XS.aloadN X0.here hx rfl (hb hby d2_7) rfl rfl k_) ?_
  show own_Go p e below s₁ (mkF m 8 #[.val (.ref a1), .val (.int (1 : Int32)), .val (.int (2 : Int32)), .val (.int (0 : Int32)), .val (.int x0)] [(.ref a1)]) _
  refine own_st (fun t_ k_ => XS.iloadN X0.here hx rfl (hb hby d2_8) rfl k_) ?_
  show own_Go p e below s₁ (mkF m 9 #[.val (.ref a1), .val (.int (1 : Int32)), .val (.int (2 : Int32)), .val (.int (0 : Int32)), .val (.int x0)] [(.int (1 : Int32)), (.ref a1)]) _
  obtain ⟨cl1, Ar1, q1, Sz1, Nn1, Hh1, Gg1⟩ := id pV_a1
  have hin1 : ¬ ((1 : Int32) < 0 ∨ cl1.slots.size ≤ ((1 : Int32)).toNatClampNeg) := inb_of Sz1 ⟨by decide, by decide⟩
  have hat1 : cl1.slots[((1 : Int32)).toNatClampNeg]? = some (.int x1) := Has.at Hh1 hin1 rfl
  refine own_st (fun t_ k_ => X0.iaload hx (j := (1 : Int32)) (v := (.int x1)) (by rw [e0]; exact Ar1.1) (State.isArrayOf_alike hZ.alike Ar1.2.1) Ar1.2.2 hin1 hat1 (g := (mkF m 9 #[.val (.ref a1), .val (.int (1 : Int32)), .val (.int (2 : Int32)), .val (.int (0 : Int32)), .val (.int x0)] [(.int (1 : Int32)), (.ref a1)])) rfl rfl (hb hby d2_9) _ k_) ?_
  show own_Go p e below s₁ (mkF m 10 #[.val (.ref a1), .val (.int (1 : Int32)), .val (.int (2 : Int32)), .val (.int (0 : Int32)), .val (.int x0)] [(.int x1)]) _
  refine own_st (fun t_ k_ => XS.iload X0.here hx rfl (hb hby d2_10) rfl k_) ?_
  show own_Go p e below s₁ (mkF m 12 #[.val (.ref a1), .val (.int (1 : Int32)), .val (.int (2 : Int32)), .val (.int (0 : Int32)), .val (.int x0)] [(.int x0), (.int x1)]) _
  refine own_st (fun t_ k_ => XS.icmpYes X0.here hx rfl (pc0 := 12) (pc' := 17) rfl (hb hby d2_12) rfl (flt hn).2.2.2 (by decide) (by decide) k_) ?_
  show own_Go p e below s₁ (mkF m 17 #[.val (.ref a1), .val (.int (1 : Int32)), .val (.int (2 : Int32)), .val (.int (0 : Int32)), .val (.int x0)] []) _
  refine own_st (fun t_ k_ => XS.iloadN X0.here hx rfl (hb hby d2_17) rfl k_) ?_
  show own_Go p e below s₁ (mkF m 18 #[.val (.ref a1), .val (.int (1 : Int32)), .val (.int (2 : Int32)), .val (.int (0 : Int32)), .val (.int x0)] [(.int (1 : Int32))]) _
  refine own_st (fun t_ k_ => XS.iloadN X0.here hx rfl (hb hby d2_18) rfl k_) ?_
  show own_Go p e below s₁ (mkF m 19 #[.val (.ref a1), .val (.int (1 : Int32)), .val (.int (2 : Int32)), .val (.int (0 : Int32)), .val (.int x0)] [(.int (0 : Int32)), (.int (1 : Int32))]) _
  refine own_st (fun t_ k_ => XS.icmpYes X0.here hx rfl (pc0 := 19) (pc' := 32) rfl (hb hby d2_19) rfl (by decide) (by decide) (by decide) k_) ?_
  show own_Go p e below s₁ (mkF m 32 #[.val (.ref a1), .val (.int (1 : Int32)), .val (.int (2 : Int32)), .val (.int (0 : Int32)), .val (.int x0)] []) _
  refine own_st (fun t_ k_ => XS.iconst X0.here hx rfl (hb hby d2_32) k_) ?_
  show own_Go p e below s₁ (mkF m 33 #[.val (.ref a1), .val (.int (1 : Int32)), .val (.int (2 : Int32)), .val (.int (0 : Int32)), .val (.int x0)] [(.int (1 : Int32))]) _
  obtain ⟨fs, hr, hrun, hended, hW, hsame⟩ := X0.leave (v := some (.int (1 : Int32))) (fun h => by rw [Bd.returns] at h; cases h)
  refine own_fin (retN X0 hx (t := .boolean) Bd.returns (by simp) (hb hby d2_33) hr) ⟨hrun, hended, _, _, rfl, ?_, ⟨_, rfl⟩, hW, hsame.mono (by decide) (by decide)⟩
  show Q_rmOk_1_2_0 Z a1 ki x0 x1 x2 x3 h0 n0 _ s₁.heap _
  rw [e0]
  exact ⟨rfl, N0, rfl⟩
theorem ef_rmOk_2_2_0 (m : MethodId) (x0 : Addr) (x1 : Int32) (x2 : Int32) (x3 : Int32) (x4 : Int32) : entryFrame m #[(.ref x0), (.int x1), (.int x2), (.int x3), (.int x4)] 5 = mkF m 0 #[.val (.ref x0), .val (.int x1), .val (.int x2), .val (.int x3), .val (.int x4)] [] := by first | (simp [entryFrame, mkF, argsToLocals, Value.category]; done) | rfl
def Q_rmOk_2_2_0 (Z : State) (a1 : Addr) (ki : ClassId) (x0 : Int32) (x1 : Int32) (x2 : Int32) (x3 : Int32) (h0 : Heap) (n0 : Nat) (v : Option Value) (h : Heap) (L : List Loc) : Prop := v = some (.int (1 : Int32)) ∧ Fr n0 L ∧ h = h0
set_option maxRecDepth 65536 in
set_option maxHeartbeats 40000000 in
theorem rmOk_2_2_0 (l : Launch) (Z : State) (a0 : Array Value) (hw : ∀ d ∈ tables_1, d.before a0 Z = true) (ws : List Jvm.Cond) (a1 : Addr) (ki : ClassId) (x0 : Int32) (x1 : Int32) (x2 : Int32) (x3 : Int32) (h0 : Heap) (n0 : Nat) (Z0 : n0 ≤ h0.size) (pV_a1 : Arv Z h0 a1 ki .int (4 : Int32) [(.int x0), (.int x1), (.int x2), (.int x3)] (.int (0 : Int32))) :
    MetFree l (⟨"com/example/spillback/spillback/behaviour/PlanSelectorHighestPinLaw", "ok", "([IIIII)Z"⟩ : MethodName) (head1 (Jvm.Cond.code (⟨"com/example/spillback/spillback/behaviour/PlanSelectorHighestPinLaw", "ok", "([IIIII)Z"⟩ : MethodName) method_3_code 5 (some .boolean) :: ws) ({ frames := 0, cells := 0, slots := 0, locals := 0 } : Room)) (fun a U => a = #[(.ref a1), (.int (2 : Int32)), (.int (2 : Int32)), (.int (0 : Int32)), (.int x0)] ∧ Z.Warmed39 U.vm ∧ U.heap = h0) (fun _ _ _ _ _ => True) (fun _ U o U' => ∃ v L, o = .returned v ∧ Q_rmOk_2_2_0 Z a1 ki x0 x1 x2 x3 h0 n0 v U'.heap L ∧ FrameEnd U o U' L ({ frames := 0, cells := 0, slots := 0, locals := 0 } : Room).cells ({ frames := 0, cells := 0, slots := 0, locals := 0 } : Room).slots) := by
  refine MetFree.of_bodySF (plainFor_of_name pn_2) hisR ?_
  intro p e s m args below meth c s₁ Bd hml0 hP hK
  obtain ⟨rfl, hZ, hh⟩ := hP
  have hx := Bd.exec
  have hby := Bd.bytes
  have hml : c.maxLocals = 5 := hml0
  have hown : s.vm.findClass "com/example/spillback/spillback/behaviour/PlanSelectorHighestPinLaw" = some m.cls := findClass_of_methodNamed Bd.named
  have hnm := (name_of_methodNamed Bd.named Bd.method).1
  have X0 : Stand p l e ({ frames := 0, cells := 0, slots := 0, locals := 0 } : Room) s m #[(.ref a1), (.int (2 : Int32)), (.int (2 : Int32)), (.int (0 : Int32)), (.int x0)] below meth c s₁ [] 0 0 := Stand.of_body Bd
  have e0 : s₁.heap = h0 := by rw [← hh, Bd.state]; rfl
  have N0 := Fr.nil n0
  refine own_enter (ef_rmOk_2_2_0 m a1 ((2 : Int32)) ((2 : Int32)) ((0 : Int32)) x0) ?_
  skip
  refine own_st (fun t_ k_ => XS.iloadN X0.here hx rfl (hb hby d2_0) rfl k_) ?_
  show own_Go p e below s₁ (mkF m 1 #[.val (.ref a1), .val (.int (2 : Int32)), .val (.int (2 : Int32)), .val (.int (0 : Int32)), .val (.int x0)] [(.int (2 : Int32))]) _
  refine own_st (fun t_ k_ => XS.iloadN X0.here hx rfl (hb hby d2_1) rfl k_) ?_
  show own_Go p e below s₁ (mkF m 2 #[.val (.ref a1), .val (.int (2 : Int32)), .val (.int (2 : Int32)), .val (.int (0 : Int32)), .val (.int x0)] [(.int (2 : Int32)), (.int (2 : Int32))]) _
  refine own_st (fun t_ k_ => XS.icmpNo X0.here hx rfl (hb hby d2_2) rfl (by decide) k_) ?_
  show own_Go p e below s₁ (mkF m 5 #[.val (.ref a1), .val (.int (2 : Int32)), .val (.int (2 : Int32)), .val (.int (0 : Int32)), .val (.int x0)] []) _
  refine own_st (fun t_ k_ => XS.iconst X0.here hx rfl (hb hby d2_5) k_) ?_
  show own_Go p e below s₁ (mkF m 6 #[.val (.ref a1), .val (.int (2 : Int32)), .val (.int (2 : Int32)), .val (.int (0 : Int32)), .val (.int x0)] [(.int (1 : Int32))]) _
  obtain ⟨fs, hr, hrun, hended, hW, hsame⟩ := X0.leave (v := some (.int (1 : Int32))) (fun h => by rw [Bd.returns] at h; cases h)
  refine own_fin (retN X0 hx (t := .boolean) Bd.returns (by simp) (hb hby d2_6) hr) ⟨hrun, hended, _, _, rfl, ?_, ⟨_, rfl⟩, hW, hsame.mono (by decide) (by decide)⟩
  show Q_rmOk_2_2_0 Z a1 ki x0 x1 x2 x3 h0 n0 _ s₁.heap _
  rw [e0]
  exact ⟨rfl, N0, rfl⟩
theorem ef_rmOk_3_2_0 (m : MethodId) (x0 : Addr) (x1 : Int32) (x2 : Int32) (x3 : Int32) (x4 : Int32) : entryFrame m #[(.ref x0), (.int x1), (.int x2), (.int x3), (.int x4)] 5 = mkF m 0 #[.val (.ref x0), .val (.int x1), .val (.int x2), .val (.int x3), .val (.int x4)] [] := by first | (simp [entryFrame, mkF, argsToLocals, Value.category]; done) | rfl
def Q_rmOk_3_2_0 (Z : State) (a1 : Addr) (ki : ClassId) (x0 : Int32) (x1 : Int32) (x2 : Int32) (x3 : Int32) (h0 : Heap) (n0 : Nat) (v : Option Value) (h : Heap) (L : List Loc) : Prop := v = some (.int (1 : Int32)) ∧ Fr n0 L ∧ h = h0
set_option maxRecDepth 65536 in
set_option maxHeartbeats 40000000 in
theorem rmOk_3_2_0 (l : Launch) (Z : State) (a0 : Array Value) (hw : ∀ d ∈ tables_1, d.before a0 Z = true) (ws : List Jvm.Cond) (a1 : Addr) (ki : ClassId) (x0 : Int32) (x1 : Int32) (x2 : Int32) (x3 : Int32) (h0 : Heap) (n0 : Nat) (Z0 : n0 ≤ h0.size) (pV_a1 : Arv Z h0 a1 ki .int (4 : Int32) [(.int x0), (.int x1), (.int x2), (.int x3)] (.int (0 : Int32))) :
    MetFree l (⟨"com/example/spillback/spillback/behaviour/PlanSelectorHighestPinLaw", "ok", "([IIIII)Z"⟩ : MethodName) (head1 (Jvm.Cond.code (⟨"com/example/spillback/spillback/behaviour/PlanSelectorHighestPinLaw", "ok", "([IIIII)Z"⟩ : MethodName) method_3_code 5 (some .boolean) :: ws) ({ frames := 0, cells := 0, slots := 0, locals := 0 } : Room)) (fun a U => a = #[(.ref a1), (.int (3 : Int32)), (.int (2 : Int32)), (.int (0 : Int32)), (.int x0)] ∧ Z.Warmed39 U.vm ∧ U.heap = h0) (fun _ _ _ _ _ => True) (fun _ U o U' => ∃ v L, o = .returned v ∧ Q_rmOk_3_2_0 Z a1 ki x0 x1 x2 x3 h0 n0 v U'.heap L ∧ FrameEnd U o U' L ({ frames := 0, cells := 0, slots := 0, locals := 0 } : Room).cells ({ frames := 0, cells := 0, slots := 0, locals := 0 } : Room).slots) := by
  refine MetFree.of_bodySF (plainFor_of_name pn_2) hisR ?_
  intro p e s m args below meth c s₁ Bd hml0 hP hK
  obtain ⟨rfl, hZ, hh⟩ := hP
  have hx := Bd.exec
  have hby := Bd.bytes
  have hml : c.maxLocals = 5 := hml0
  have hown : s.vm.findClass "com/example/spillback/spillback/behaviour/PlanSelectorHighestPinLaw" = some m.cls := findClass_of_methodNamed Bd.named
  have hnm := (name_of_methodNamed Bd.named Bd.method).1
  have X0 : Stand p l e ({ frames := 0, cells := 0, slots := 0, locals := 0 } : Room) s m #[(.ref a1), (.int (3 : Int32)), (.int (2 : Int32)), (.int (0 : Int32)), (.int x0)] below meth c s₁ [] 0 0 := Stand.of_body Bd
  have e0 : s₁.heap = h0 := by rw [← hh, Bd.state]; rfl
  have N0 := Fr.nil n0
  refine own_enter (ef_rmOk_3_2_0 m a1 ((3 : Int32)) ((2 : Int32)) ((0 : Int32)) x0) ?_
  skip
  refine own_st (fun t_ k_ => XS.iloadN X0.here hx rfl (hb hby d2_0) rfl k_) ?_
  show own_Go p e below s₁ (mkF m 1 #[.val (.ref a1), .val (.int (3 : Int32)), .val (.int (2 : Int32)), .val (.int (0 : Int32)), .val (.int x0)] [(.int (3 : Int32))]) _
  refine own_st (fun t_ k_ => XS.iloadN X0.here hx rfl (hb hby d2_1) rfl k_) ?_
  show own_Go p e below s₁ (mkF m 2 #[.val (.ref a1), .val (.int (3 : Int32)), .val (.int (2 : Int32)), .val (.int (0 : Int32)), .val (.int x0)] [(.int (2 : Int32)), (.int (3 : Int32))]) _
  refine own_st (fun t_ k_ => XS.icmpNo X0.here hx rfl (hb hby d2_2) rfl (by decide) k_) ?_
  show own_Go p e below s₁ (mkF m 5 #[.val (.ref a1), .val (.int (3 : Int32)), .val (.int (2 : Int32)), .val (.int (0 : Int32)), .val (.int x0)] []) _
  refine own_st (fun t_ k_ => XS.iconst X0.here hx rfl (hb hby d2_5) k_) ?_
  show own_Go p e below s₁ (mkF m 6 #[.val (.ref a1), .val (.int (3 : Int32)), .val (.int (2 : Int32)), .val (.int (0 : Int32)), .val (.int x0)] [(.int (1 : Int32))]) _
  obtain ⟨fs, hr, hrun, hended, hW, hsame⟩ := X0.leave (v := some (.int (1 : Int32))) (fun h => by rw [Bd.returns] at h; cases h)
  refine own_fin (retN X0 hx (t := .boolean) Bd.returns (by simp) (hb hby d2_6) hr) ⟨hrun, hended, _, _, rfl, ?_, ⟨_, rfl⟩, hW, hsame.mono (by decide) (by decide)⟩
  show Q_rmOk_3_2_0 Z a1 ki x0 x1 x2 x3 h0 n0 _ s₁.heap _
  rw [e0]
  exact ⟨rfl, N0, rfl⟩
theorem d2_22 : decode method_3_code 22 = .ok (.aload_n 0, 1) := by decide +kernel
theorem d2_23 : decode method_3_code 23 = .ok (.iload_n 1, 1) := by decide +kernel
theorem d2_24 : decode method_3_code 24 = .ok (.iaload, 1) := by decide +kernel
theorem d2_25 : decode method_3_code 25 = .ok (.iload 4, 2) := by decide +kernel
theorem d2_27 : decode method_3_code 27 = .ok (.if_icmp .ne 5, 3) := by decide +kernel
theorem ef_rmOk_0_2_1 (m : MethodId) (x0 : Addr) (x1 : Int32) (x2 : Int32) (x3 : Int32) (x4 : Int32) : entryFrame m #[(.ref x0), (.int x1), (.int x2), (.int x3), (.int x4)] 5 = mkF m 0 #[.val (.ref x0), .val (.int x1), .val (.int x2), .val (.int x3), .val (.int x4)] [] := by first | (simp [entryFrame, mkF, argsToLocals, Value.category]; done) | rfl
def Q_rmOk_0_2_1 (Z : State) (a1 : Addr) (ki : ClassId) (x0 : Int32) (x1 : Int32) (x2 : Int32) (x3 : Int32) (h0 : Heap) (n0 : Nat) (v : Option Value) (h : Heap) (L : List Loc) : Prop := v = some (.int (1 : Int32)) ∧ Fr n0 L ∧ h = h0
set_option maxRecDepth 65536 in
set_option maxHeartbeats 40000000 in
theorem rmOk_0_2_1 (l : Launch) (Z : State) (a0 : Array Value) (hw : ∀ d ∈ tables_1, d.before a0 Z = true) (ws : List Jvm.Cond) (a1 : Addr) (ki : ClassId) (x0 : Int32) (x1 : Int32) (x2 : Int32) (x3 : Int32) (h0 : Heap) (n0 : Nat) (Z0 : n0 ≤ h0.size) (pV_a1 : Arv Z h0 a1 ki .int (4 : Int32) [(.int x0), (.int x1), (.int x2), (.int x3)] (.int (0 : Int32))) (hle : (x0.toInt < x1.toInt)) :
    MetFree l (⟨"com/example/spillback/spillback/behaviour/PlanSelectorHighestPinLaw", "ok", "([IIIII)Z"⟩ : MethodName) (head1 (Jvm.Cond.code (⟨"com/example/spillback/spillback/behaviour/PlanSelectorHighestPinLaw", "ok", "([IIIII)Z"⟩ : MethodName) method_3_code 5 (some .boolean) :: ws) ({ frames := 0, cells := 0, slots := 0, locals := 0 } : Room)) (fun a U => a = #[(.ref a1), (.int (0 : Int32)), (.int (2 : Int32)), (.int (1 : Int32)), (.int x1)] ∧ Z.Warmed39 U.vm ∧ U.heap = h0) (fun _ _ _ _ _ => True) (fun _ U o U' => ∃ v L, o = .returned v ∧ Q_rmOk_0_2_1 Z a1 ki x0 x1 x2 x3 h0 n0 v U'.heap L ∧ FrameEnd U o U' L ({ frames := 0, cells := 0, slots := 0, locals := 0 } : Room).cells ({ frames := 0, cells := 0, slots := 0, locals := 0 } : Room).slots) := by
  refine MetFree.of_bodySF (plainFor_of_name pn_2) hisR ?_
  intro p e s m args below meth c s₁ Bd hml0 hP hK
  obtain ⟨rfl, hZ, hh⟩ := hP
  have hx := Bd.exec
  have hby := Bd.bytes
  have hml : c.maxLocals = 5 := hml0
  have hown : s.vm.findClass "com/example/spillback/spillback/behaviour/PlanSelectorHighestPinLaw" = some m.cls := findClass_of_methodNamed Bd.named
  have hnm := (name_of_methodNamed Bd.named Bd.method).1
  have X0 : Stand p l e ({ frames := 0, cells := 0, slots := 0, locals := 0 } : Room) s m #[(.ref a1), (.int (0 : Int32)), (.int (2 : Int32)), (.int (1 : Int32)), (.int x1)] below meth c s₁ [] 0 0 := Stand.of_body Bd
  have e0 : s₁.heap = h0 := by rw [← hh, Bd.state]; rfl
  have N0 := Fr.nil n0
  refine own_enter (ef_rmOk_0_2_1 m a1 ((0 : Int32)) ((2 : Int32)) ((1 : Int32)) x1) ?_
  have hn : ¬ (x1 < x0) := by rw [Int32.lt_iff_toInt_lt]; omega
  have hd : ¬ (x0 = x1) := fun q => by subst q; omega
  refine own_st (fun t_ k_ => XS.iloadN X0.here hx rfl (hb hby d2_0) rfl k_) ?_
  show own_Go p e below s₁ (mkF m 1 #[.val (.ref a1), .val (.int (0 : Int32)), .val (.int (2 : Int32)), .val (.int (1 : Int32)), .val (.int x1)] [(.int (0 : Int32))]) _
  refine own_st (fun t_ k_ => XS.iloadN X0.here hx rfl (hb hby d2_1) rfl k_) ?_
  show own_Go p e below s₁ (mkF m 2 #[.val (.ref a1), .val (.int (0 : Int32)), .val (.int (2 : Int32)), .val (.int (1 : Int32)), .val (.int x1)] [(.int (2 : Int32)), (.int (0 : Int32))]) _
  refine own_st (fun t_ k_ => XS.icmpYes X0.here hx rfl (pc0 := 2) (pc' := 7) rfl (hb hby d2_2) rfl (by decide) (by decide) (by decide) k_) ?_
  show own_Go p e below s₁ (mkF m 7 #[.val (.ref a1), .val (.int (0 : Int32)), .val (.int (2 : Int32)), .val (.int (1 : Int32)), .val (.int x1)] []) _
  refine own_st (fun t_ k_ => XS.aloadN X0.here hx rfl (hb hby d2_7) rfl rfl k_) ?_
  show own_Go p e below s₁ (mkF m 8 #[.val (.ref a1), .val (.int (0 : Int32)), .val (.int (2 : Int32)), .val (.int (1 : Int32)), .val (.int x1)] [(.ref a1)]) _
  refine own_st (fun t_ k_ => XS.iloadN X0.here hx rfl (hb hby d2_8) rfl k_) ?_
  show own_Go p e below s₁ (mkF m 9 #[.val (.ref a1), .val (.int (0 : Int32)), .val (.int (2 : Int32)), .val (.int (1 : Int32)), .val (.int x1)] [(.int (0 : Int32)), (.ref a1)]) _
  obtain ⟨cl1, Ar1, q1, Sz1, Nn1, Hh1, Gg1⟩ := id pV_a1
  have hin1 : ¬ ((0 : Int32) < 0 ∨ cl1.slots.size ≤ ((0 : Int32)).toNatClampNeg) := inb_of Sz1 ⟨by decide, by decide⟩
  have hat1 : cl1.slots[((0 : Int32)).toNatClampNeg]? = some (.int x0) := Has.at Hh1 hin1 rfl
  refine own_st (fun t_ k_ => X0.iaload hx (j := (0 : Int32)) (v := (.int x0)) (by rw [e0]; exact Ar1.1) (State.isArrayOf_alike hZ.alike Ar1.2.1) Ar1.2.2 hin1 hat1 (g := (mkF m 9 #[.val (.ref a1), .val (.int (0 : Int32)), .val (.int (2 : Int32)), .val (.int (1 : Int32)), .val (.int x1)] [(.int (0 : Int32)), (.ref a1)])) rfl rfl (hb hby d2_9) _ k_) ?_
  show own_Go p e below s₁ (mkF m 10 #[.val (.ref a1), .val (.int (0 : Int32)), .val (.int (2 : Int32)), .val (.int (1 : Int32)), .val (.int x1)] [(.int x0)]) _
  refine own_st (fun t_ k_ => XS.iload X0.here hx rfl (hb hby d2_10) rfl k_) ?_
  show own_Go p e below s₁ (mkF m 12 #[.val (.ref a1), .val (.int (0 : Int32)), .val (.int (2 : Int32)), .val (.int (1 : Int32)), .val (.int x1)] [(.int x1), (.int x0)]) _
  refine own_st (fun t_ k_ => XS.icmpYes X0.here hx rfl (pc0 := 12) (pc' := 17) rfl (hb hby d2_12) rfl (flt hn).2.2.2 (by decide) (by decide) k_) ?_
  show own_Go p e below s₁ (mkF m 17 #[.val (.ref a1), .val (.int (0 : Int32)), .val (.int (2 : Int32)), .val (.int (1 : Int32)), .val (.int x1)] []) _
  refine own_st (fun t_ k_ => XS.iloadN X0.here hx rfl (hb hby d2_17) rfl k_) ?_
  show own_Go p e below s₁ (mkF m 18 #[.val (.ref a1), .val (.int (0 : Int32)), .val (.int (2 : Int32)), .val (.int (1 : Int32)), .val (.int x1)] [(.int (0 : Int32))]) _
  refine own_st (fun t_ k_ => XS.iloadN X0.here hx rfl (hb hby d2_18) rfl k_) ?_
  show own_Go p e below s₁ (mkF m 19 #[.val (.ref a1), .val (.int (0 : Int32)), .val (.int (2 : Int32)), .val (.int (1 : Int32)), .val (.int x1)] [(.int (1 : Int32)), (.int (0 : Int32))]) _
  refine own_st (fun t_ k_ => XS.icmpNo X0.here hx rfl (hb hby d2_19) rfl (by decide) k_) ?_
  show own_Go p e below s₁ (mkF m 22 #[.val (.ref a1), .val (.int (0 : Int32)), .val (.int (2 : Int32)), .val (.int (1 : Int32)), .val (.int x1)] []) _
  refine own_st (fun t_ k_ => XS.aloadN X0.here hx rfl (hb hby d2_22) rfl rfl k_) ?_
  show own_Go p e below s₁ (mkF m 23 #[.val (.ref a1), .val (.int (0 : Int32)), .val (.int (2 : Int32)), .val (.int (1 : Int32)), .val (.int x1)] [(.ref a1)]) _
  refine own_st (fun t_ k_ => XS.iloadN X0.here hx rfl (hb hby d2_23) rfl k_) ?_
  show own_Go p e below s₁ (mkF m 24 #[.val (.ref a1), .val (.int (0 : Int32)), .val (.int (2 : Int32)), .val (.int (1 : Int32)), .val (.int x1)] [(.int (0 : Int32)), (.ref a1)]) _
  obtain ⟨cl2, Ar2, q2, Sz2, Nn2, Hh2, Gg2⟩ := id pV_a1
  have hin2 : ¬ ((0 : Int32) < 0 ∨ cl2.slots.size ≤ ((0 : Int32)).toNatClampNeg) := inb_of Sz2 ⟨by decide, by decide⟩
  have hat2 : cl2.slots[((0 : Int32)).toNatClampNeg]? = some (.int x0) := Has.at Hh2 hin2 rfl
  refine own_st (fun t_ k_ => X0.iaload hx (j := (0 : Int32)) (v := (.int x0)) (by rw [e0]; exact Ar2.1) (State.isArrayOf_alike hZ.alike Ar2.2.1) Ar2.2.2 hin2 hat2 (g := (mkF m 24 #[.val (.ref a1), .val (.int (0 : Int32)), .val (.int (2 : Int32)), .val (.int (1 : Int32)), .val (.int x1)] [(.int (0 : Int32)), (.ref a1)])) rfl rfl (hb hby d2_24) _ k_) ?_
  show own_Go p e below s₁ (mkF m 25 #[.val (.ref a1), .val (.int (0 : Int32)), .val (.int (2 : Int32)), .val (.int (1 : Int32)), .val (.int x1)] [(.int x0)]) _
  refine own_st (fun t_ k_ => XS.iload X0.here hx rfl (hb hby d2_25) rfl k_) ?_
  show own_Go p e below s₁ (mkF m 27 #[.val (.ref a1), .val (.int (0 : Int32)), .val (.int (2 : Int32)), .val (.int (1 : Int32)), .val (.int x1)] [(.int x1), (.int x0)]) _
  refine own_st (fun t_ k_ => XS.icmpYes X0.here hx rfl (pc0 := 27) (pc' := 32) rfl (hb hby d2_27) rfl (feq hd).2 (by decide) (by decide) k_) ?_
  show own_Go p e below s₁ (mkF m 32 #[.val (.ref a1), .val (.int (0 : Int32)), .val (.int (2 : Int32)), .val (.int (1 : Int32)), .val (.int x1)] []) _
  refine own_st (fun t_ k_ => XS.iconst X0.here hx rfl (hb hby d2_32) k_) ?_
  show own_Go p e below s₁ (mkF m 33 #[.val (.ref a1), .val (.int (0 : Int32)), .val (.int (2 : Int32)), .val (.int (1 : Int32)), .val (.int x1)] [(.int (1 : Int32))]) _
  obtain ⟨fs, hr, hrun, hended, hW, hsame⟩ := X0.leave (v := some (.int (1 : Int32))) (fun h => by rw [Bd.returns] at h; cases h)
  refine own_fin (retN X0 hx (t := .boolean) Bd.returns (by simp) (hb hby d2_33) hr) ⟨hrun, hended, _, _, rfl, ?_, ⟨_, rfl⟩, hW, hsame.mono (by decide) (by decide)⟩
  show Q_rmOk_0_2_1 Z a1 ki x0 x1 x2 x3 h0 n0 _ s₁.heap _
  rw [e0]
  exact ⟨rfl, N0, rfl⟩
theorem ef_rmOk_1_2_1 (m : MethodId) (x0 : Addr) (x1 : Int32) (x2 : Int32) (x3 : Int32) (x4 : Int32) : entryFrame m #[(.ref x0), (.int x1), (.int x2), (.int x3), (.int x4)] 5 = mkF m 0 #[.val (.ref x0), .val (.int x1), .val (.int x2), .val (.int x3), .val (.int x4)] [] := by first | (simp [entryFrame, mkF, argsToLocals, Value.category]; done) | rfl
def Q_rmOk_1_2_1 (Z : State) (a1 : Addr) (ki : ClassId) (x0 : Int32) (x1 : Int32) (x2 : Int32) (x3 : Int32) (h0 : Heap) (n0 : Nat) (v : Option Value) (h : Heap) (L : List Loc) : Prop := v = some (.int (1 : Int32)) ∧ Fr n0 L ∧ h = h0
set_option maxRecDepth 65536 in
set_option maxHeartbeats 40000000 in
theorem rmOk_1_2_1 (l : Launch) (Z : State) (a0 : Array Value) (hw : ∀ d ∈ tables_1, d.before a0 Z = true) (ws : List Jvm.Cond) (a1 : Addr) (ki : ClassId) (x0 : Int32) (x1 : Int32) (x2 : Int32) (x3 : Int32) (h0 : Heap) (n0 : Nat) (Z0 : n0 ≤ h0.size) (pV_a1 : Arv Z h0 a1 ki .int (4 : Int32) [(.int x0), (.int x1), (.int x2), (.int x3)] (.int (0 : Int32))) :
    MetFree l (⟨"com/example/spillback/spillback/behaviour/PlanSelectorHighestPinLaw", "ok", "([IIIII)Z"⟩ : MethodName) (head1 (Jvm.Cond.code (⟨"com/example/spillback/spillback/behaviour/PlanSelectorHighestPinLaw", "ok", "([IIIII)Z"⟩ : MethodName) method_3_code 5 (some .boolean) :: ws) ({ frames := 0, cells := 0, slots := 0, locals := 0 } : Room)) (fun a U => a = #[(.ref a1), (.int (1 : Int32)), (.int (2 : Int32)), (.int (1 : Int32)), (.int x1)] ∧ Z.Warmed39 U.vm ∧ U.heap = h0) (fun _ _ _ _ _ => True) (fun _ U o U' => ∃ v L, o = .returned v ∧ Q_rmOk_1_2_1 Z a1 ki x0 x1 x2 x3 h0 n0 v U'.heap L ∧ FrameEnd U o U' L ({ frames := 0, cells := 0, slots := 0, locals := 0 } : Room).cells ({ frames := 0, cells := 0, slots := 0, locals := 0 } : Room).slots) := by
  refine MetFree.of_bodySF (plainFor_of_name pn_2) hisR ?_
  intro p e s m args below meth c s₁ Bd hml0 hP hK
  obtain ⟨rfl, hZ, hh⟩ := hP
  have hx := Bd.exec
  have hby := Bd.bytes
  have hml : c.maxLocals = 5 := hml0
  have hown : s.vm.findClass "com/example/spillback/spillback/behaviour/PlanSelectorHighestPinLaw" = some m.cls := findClass_of_methodNamed Bd.named
  have hnm := (name_of_methodNamed Bd.named Bd.method).1
  have X0 : Stand p l e ({ frames := 0, cells := 0, slots := 0, locals := 0 } : Room) s m #[(.ref a1), (.int (1 : Int32)), (.int (2 : Int32)), (.int (1 : Int32)), (.int x1)] below meth c s₁ [] 0 0 := Stand.of_body Bd
  have e0 : s₁.heap = h0 := by rw [← hh, Bd.state]; rfl
  have N0 := Fr.nil n0
  refine own_enter (ef_rmOk_1_2_1 m a1 ((1 : Int32)) ((2 : Int32)) ((1 : Int32)) x1) ?_
  have hn : ¬ (x1 < x1) := by rw [Int32.lt_iff_toInt_lt]; omega
  refine own_st (fun t_ k_ => XS.iloadN X0.here hx rfl (hb hby d2_0) rfl k_) ?_
  show own_Go p e below s₁ (mkF m 1 #[.val (.ref a1), .val (.int (1 : Int32)), .val (.int (2 : Int32)), .val (.int (1 : Int32)), .val (.int x1)] [(.int (1 : Int32))]) _
  refine own_st (fun t_ k_ => XS.iloadN X0.here hx rfl (hb hby d2_1) rfl k_) ?_
  show own_Go p e below s₁ (mkF m 2 #[.val (.ref a1), .val (.int (1 : Int32)), .val (.int (2 : Int32)), .val (.int (1 : Int32)), .val (.int x1)] [(.int (2 : Int32)), (.int (1 : Int32))]) _
  refine own_st (fun t_ k_ => XS.icmpYes X0.here hx rfl (pc0 := 2) (pc' := 7) rfl (hb hby d2_2) rfl (by decide) (by decide) (by decide) k_) ?_
  show own_Go p e below s₁ (mkF m 7 #[.val (.ref a1), .val (.int (1 : Int32)), .val (.int (2 : Int32)), .val (.int (1 : Int32)), .val (.int x1)] []) _
  refine own_st (fun t_ k_ => XS.aloadN X0.here hx rfl (hb hby d2_7) rfl rfl k_) ?_
  show own_Go p e below s₁ (mkF m 8 #[.val (.ref a1), .val (.int (1 : Int32)), .val (.int (2 : Int32)), .val (.int (1 : Int32)), .val (.int x1)] [(.ref a1)]) _
  refine own_st (fun t_ k_ => XS.iloadN X0.here hx rfl (hb hby d2_8) rfl k_) ?_
  show own_Go p e below s₁ (mkF m 9 #[.val (.ref a1), .val (.int (1 : Int32)), .val (.int (2 : Int32)), .val (.int (1 : Int32)), .val (.int x1)] [(.int (1 : Int32)), (.ref a1)]) _
  obtain ⟨cl1, Ar1, q1, Sz1, Nn1, Hh1, Gg1⟩ := id pV_a1
  have hin1 : ¬ ((1 : Int32) < 0 ∨ cl1.slots.size ≤ ((1 : Int32)).toNatClampNeg) := inb_of Sz1 ⟨by decide, by decide⟩
  have hat1 : cl1.slots[((1 : Int32)).toNatClampNeg]? = some (.int x1) := Has.at Hh1 hin1 rfl
  refine own_st (fun t_ k_ => X0.iaload hx (j := (1 : Int32)) (v := (.int x1)) (by rw [e0]; exact Ar1.1) (State.isArrayOf_alike hZ.alike Ar1.2.1) Ar1.2.2 hin1 hat1 (g := (mkF m 9 #[.val (.ref a1), .val (.int (1 : Int32)), .val (.int (2 : Int32)), .val (.int (1 : Int32)), .val (.int x1)] [(.int (1 : Int32)), (.ref a1)])) rfl rfl (hb hby d2_9) _ k_) ?_
  show own_Go p e below s₁ (mkF m 10 #[.val (.ref a1), .val (.int (1 : Int32)), .val (.int (2 : Int32)), .val (.int (1 : Int32)), .val (.int x1)] [(.int x1)]) _
  refine own_st (fun t_ k_ => XS.iload X0.here hx rfl (hb hby d2_10) rfl k_) ?_
  show own_Go p e below s₁ (mkF m 12 #[.val (.ref a1), .val (.int (1 : Int32)), .val (.int (2 : Int32)), .val (.int (1 : Int32)), .val (.int x1)] [(.int x1), (.int x1)]) _
  refine own_st (fun t_ k_ => XS.icmpYes X0.here hx rfl (pc0 := 12) (pc' := 17) rfl (hb hby d2_12) rfl (flt hn).2.2.2 (by decide) (by decide) k_) ?_
  show own_Go p e below s₁ (mkF m 17 #[.val (.ref a1), .val (.int (1 : Int32)), .val (.int (2 : Int32)), .val (.int (1 : Int32)), .val (.int x1)] []) _
  refine own_st (fun t_ k_ => XS.iloadN X0.here hx rfl (hb hby d2_17) rfl k_) ?_
  show own_Go p e below s₁ (mkF m 18 #[.val (.ref a1), .val (.int (1 : Int32)), .val (.int (2 : Int32)), .val (.int (1 : Int32)), .val (.int x1)] [(.int (1 : Int32))]) _
  refine own_st (fun t_ k_ => XS.iloadN X0.here hx rfl (hb hby d2_18) rfl k_) ?_
  show own_Go p e below s₁ (mkF m 19 #[.val (.ref a1), .val (.int (1 : Int32)), .val (.int (2 : Int32)), .val (.int (1 : Int32)), .val (.int x1)] [(.int (1 : Int32)), (.int (1 : Int32))]) _
  refine own_st (fun t_ k_ => XS.icmpYes X0.here hx rfl (pc0 := 19) (pc' := 32) rfl (hb hby d2_19) rfl (by decide) (by decide) (by decide) k_) ?_
  show own_Go p e below s₁ (mkF m 32 #[.val (.ref a1), .val (.int (1 : Int32)), .val (.int (2 : Int32)), .val (.int (1 : Int32)), .val (.int x1)] []) _
  refine own_st (fun t_ k_ => XS.iconst X0.here hx rfl (hb hby d2_32) k_) ?_
  show own_Go p e below s₁ (mkF m 33 #[.val (.ref a1), .val (.int (1 : Int32)), .val (.int (2 : Int32)), .val (.int (1 : Int32)), .val (.int x1)] [(.int (1 : Int32))]) _
  obtain ⟨fs, hr, hrun, hended, hW, hsame⟩ := X0.leave (v := some (.int (1 : Int32))) (fun h => by rw [Bd.returns] at h; cases h)
  refine own_fin (retN X0 hx (t := .boolean) Bd.returns (by simp) (hb hby d2_33) hr) ⟨hrun, hended, _, _, rfl, ?_, ⟨_, rfl⟩, hW, hsame.mono (by decide) (by decide)⟩
  show Q_rmOk_1_2_1 Z a1 ki x0 x1 x2 x3 h0 n0 _ s₁.heap _
  rw [e0]
  exact ⟨rfl, N0, rfl⟩
theorem ef_rmOk_2_2_1 (m : MethodId) (x0 : Addr) (x1 : Int32) (x2 : Int32) (x3 : Int32) (x4 : Int32) : entryFrame m #[(.ref x0), (.int x1), (.int x2), (.int x3), (.int x4)] 5 = mkF m 0 #[.val (.ref x0), .val (.int x1), .val (.int x2), .val (.int x3), .val (.int x4)] [] := by first | (simp [entryFrame, mkF, argsToLocals, Value.category]; done) | rfl
def Q_rmOk_2_2_1 (Z : State) (a1 : Addr) (ki : ClassId) (x0 : Int32) (x1 : Int32) (x2 : Int32) (x3 : Int32) (h0 : Heap) (n0 : Nat) (v : Option Value) (h : Heap) (L : List Loc) : Prop := v = some (.int (1 : Int32)) ∧ Fr n0 L ∧ h = h0
set_option maxRecDepth 65536 in
set_option maxHeartbeats 40000000 in
theorem rmOk_2_2_1 (l : Launch) (Z : State) (a0 : Array Value) (hw : ∀ d ∈ tables_1, d.before a0 Z = true) (ws : List Jvm.Cond) (a1 : Addr) (ki : ClassId) (x0 : Int32) (x1 : Int32) (x2 : Int32) (x3 : Int32) (h0 : Heap) (n0 : Nat) (Z0 : n0 ≤ h0.size) (pV_a1 : Arv Z h0 a1 ki .int (4 : Int32) [(.int x0), (.int x1), (.int x2), (.int x3)] (.int (0 : Int32))) :
    MetFree l (⟨"com/example/spillback/spillback/behaviour/PlanSelectorHighestPinLaw", "ok", "([IIIII)Z"⟩ : MethodName) (head1 (Jvm.Cond.code (⟨"com/example/spillback/spillback/behaviour/PlanSelectorHighestPinLaw", "ok", "([IIIII)Z"⟩ : MethodName) method_3_code 5 (some .boolean) :: ws) ({ frames := 0, cells := 0, slots := 0, locals := 0 } : Room)) (fun a U => a = #[(.ref a1), (.int (2 : Int32)), (.int (2 : Int32)), (.int (1 : Int32)), (.int x1)] ∧ Z.Warmed39 U.vm ∧ U.heap = h0) (fun _ _ _ _ _ => True) (fun _ U o U' => ∃ v L, o = .returned v ∧ Q_rmOk_2_2_1 Z a1 ki x0 x1 x2 x3 h0 n0 v U'.heap L ∧ FrameEnd U o U' L ({ frames := 0, cells := 0, slots := 0, locals := 0 } : Room).cells ({ frames := 0, cells := 0, slots := 0, locals := 0 } : Room).slots) := by
  refine MetFree.of_bodySF (plainFor_of_name pn_2) hisR ?_
  intro p e s m args below meth c s₁ Bd hml0 hP hK
  obtain ⟨rfl, hZ, hh⟩ := hP
  have hx := Bd.exec
  have hby := Bd.bytes
  have hml : c.maxLocals = 5 := hml0
  have hown : s.vm.findClass "com/example/spillback/spillback/behaviour/PlanSelectorHighestPinLaw" = some m.cls := findClass_of_methodNamed Bd.named
  have hnm := (name_of_methodNamed Bd.named Bd.method).1
  have X0 : Stand p l e ({ frames := 0, cells := 0, slots := 0, locals := 0 } : Room) s m #[(.ref a1), (.int (2 : Int32)), (.int (2 : Int32)), (.int (1 : Int32)), (.int x1)] below meth c s₁ [] 0 0 := Stand.of_body Bd
  have e0 : s₁.heap = h0 := by rw [← hh, Bd.state]; rfl
  have N0 := Fr.nil n0
  refine own_enter (ef_rmOk_2_2_1 m a1 ((2 : Int32)) ((2 : Int32)) ((1 : Int32)) x1) ?_
  skip
  refine own_st (fun t_ k_ => XS.iloadN X0.here hx rfl (hb hby d2_0) rfl k_) ?_
  show own_Go p e below s₁ (mkF m 1 #[.val (.ref a1), .val (.int (2 : Int32)), .val (.int (2 : Int32)), .val (.int (1 : Int32)), .val (.int x1)] [(.int (2 : Int32))]) _
  refine own_st (fun t_ k_ => XS.iloadN X0.here hx rfl (hb hby d2_1) rfl k_) ?_
  show own_Go p e below s₁ (mkF m 2 #[.val (.ref a1), .val (.int (2 : Int32)), .val (.int (2 : Int32)), .val (.int (1 : Int32)), .val (.int x1)] [(.int (2 : Int32)), (.int (2 : Int32))]) _
  refine own_st (fun t_ k_ => XS.icmpNo X0.here hx rfl (hb hby d2_2) rfl (by decide) k_) ?_
  show own_Go p e below s₁ (mkF m 5 #[.val (.ref a1), .val (.int (2 : Int32)), .val (.int (2 : Int32)), .val (.int (1 : Int32)), .val (.int x1)] []) _
  refine own_st (fun t_ k_ => XS.iconst X0.here hx rfl (hb hby d2_5) k_) ?_
  show own_Go p e below s₁ (mkF m 6 #[.val (.ref a1), .val (.int (2 : Int32)), .val (.int (2 : Int32)), .val (.int (1 : Int32)), .val (.int x1)] [(.int (1 : Int32))]) _
  obtain ⟨fs, hr, hrun, hended, hW, hsame⟩ := X0.leave (v := some (.int (1 : Int32))) (fun h => by rw [Bd.returns] at h; cases h)
  refine own_fin (retN X0 hx (t := .boolean) Bd.returns (by simp) (hb hby d2_6) hr) ⟨hrun, hended, _, _, rfl, ?_, ⟨_, rfl⟩, hW, hsame.mono (by decide) (by decide)⟩
  show Q_rmOk_2_2_1 Z a1 ki x0 x1 x2 x3 h0 n0 _ s₁.heap _
  rw [e0]
  exact ⟨rfl, N0, rfl⟩
theorem ef_rmOk_3_2_1 (m : MethodId) (x0 : Addr) (x1 : Int32) (x2 : Int32) (x3 : Int32) (x4 : Int32) : entryFrame m #[(.ref x0), (.int x1), (.int x2), (.int x3), (.int x4)] 5 = mkF m 0 #[.val (.ref x0), .val (.int x1), .val (.int x2), .val (.int x3), .val (.int x4)] [] := by first | (simp [entryFrame, mkF, argsToLocals, Value.category]; done) | rfl
def Q_rmOk_3_2_1 (Z : State) (a1 : Addr) (ki : ClassId) (x0 : Int32) (x1 : Int32) (x2 : Int32) (x3 : Int32) (h0 : Heap) (n0 : Nat) (v : Option Value) (h : Heap) (L : List Loc) : Prop := v = some (.int (1 : Int32)) ∧ Fr n0 L ∧ h = h0
set_option maxRecDepth 65536 in
set_option maxHeartbeats 40000000 in
theorem rmOk_3_2_1 (l : Launch) (Z : State) (a0 : Array Value) (hw : ∀ d ∈ tables_1, d.before a0 Z = true) (ws : List Jvm.Cond) (a1 : Addr) (ki : ClassId) (x0 : Int32) (x1 : Int32) (x2 : Int32) (x3 : Int32) (h0 : Heap) (n0 : Nat) (Z0 : n0 ≤ h0.size) (pV_a1 : Arv Z h0 a1 ki .int (4 : Int32) [(.int x0), (.int x1), (.int x2), (.int x3)] (.int (0 : Int32))) :
    MetFree l (⟨"com/example/spillback/spillback/behaviour/PlanSelectorHighestPinLaw", "ok", "([IIIII)Z"⟩ : MethodName) (head1 (Jvm.Cond.code (⟨"com/example/spillback/spillback/behaviour/PlanSelectorHighestPinLaw", "ok", "([IIIII)Z"⟩ : MethodName) method_3_code 5 (some .boolean) :: ws) ({ frames := 0, cells := 0, slots := 0, locals := 0 } : Room)) (fun a U => a = #[(.ref a1), (.int (3 : Int32)), (.int (2 : Int32)), (.int (1 : Int32)), (.int x1)] ∧ Z.Warmed39 U.vm ∧ U.heap = h0) (fun _ _ _ _ _ => True) (fun _ U o U' => ∃ v L, o = .returned v ∧ Q_rmOk_3_2_1 Z a1 ki x0 x1 x2 x3 h0 n0 v U'.heap L ∧ FrameEnd U o U' L ({ frames := 0, cells := 0, slots := 0, locals := 0 } : Room).cells ({ frames := 0, cells := 0, slots := 0, locals := 0 } : Room).slots) := by
  refine MetFree.of_bodySF (plainFor_of_name pn_2) hisR ?_
  intro p e s m args below meth c s₁ Bd hml0 hP hK
  obtain ⟨rfl, hZ, hh⟩ := hP
  have hx := Bd.exec
  have hby := Bd.bytes
  have hml : c.maxLocals = 5 := hml0
  have hown : s.vm.findClass "com/example/spillback/spillback/behaviour/PlanSelectorHighestPinLaw" = some m.cls := findClass_of_methodNamed Bd.named
  have hnm := (name_of_methodNamed Bd.named Bd.method).1
  have X0 : Stand p l e ({ frames := 0, cells := 0, slots := 0, locals := 0 } : Room) s m #[(.ref a1), (.int (3 : Int32)), (.int (2 : Int32)), (.int (1 : Int32)), (.int x1)] below meth c s₁ [] 0 0 := Stand.of_body Bd
  have e0 : s₁.heap = h0 := by rw [← hh, Bd.state]; rfl
  have N0 := Fr.nil n0
  refine own_enter (ef_rmOk_3_2_1 m a1 ((3 : Int32)) ((2 : Int32)) ((1 : Int32)) x1) ?_
  skip
  refine own_st (fun t_ k_ => XS.iloadN X0.here hx rfl (hb hby d2_0) rfl k_) ?_
  show own_Go p e below s₁ (mkF m 1 #[.val (.ref a1), .val (.int (3 : Int32)), .val (.int (2 : Int32)), .val (.int (1 : Int32)), .val (.int x1)] [(.int (3 : Int32))]) _
  refine own_st (fun t_ k_ => XS.iloadN X0.here hx rfl (hb hby d2_1) rfl k_) ?_
  show own_Go p e below s₁ (mkF m 2 #[.val (.ref a1), .val (.int (3 : Int32)), .val (.int (2 : Int32)), .val (.int (1 : Int32)), .val (.int x1)] [(.int (2 : Int32)), (.int (3 : Int32))]) _
  refine own_st (fun t_ k_ => XS.icmpNo X0.here hx rfl (hb hby d2_2) rfl (by decide) k_) ?_
  show own_Go p e below s₁ (mkF m 5 #[.val (.ref a1), .val (.int (3 : Int32)), .val (.int (2 : Int32)), .val (.int (1 : Int32)), .val (.int x1)] []) _
  refine own_st (fun t_ k_ => XS.iconst X0.here hx rfl (hb hby d2_5) k_) ?_
  show own_Go p e below s₁ (mkF m 6 #[.val (.ref a1), .val (.int (3 : Int32)), .val (.int (2 : Int32)), .val (.int (1 : Int32)), .val (.int x1)] [(.int (1 : Int32))]) _
  obtain ⟨fs, hr, hrun, hended, hW, hsame⟩ := X0.leave (v := some (.int (1 : Int32))) (fun h => by rw [Bd.returns] at h; cases h)
  refine own_fin (retN X0 hx (t := .boolean) Bd.returns (by simp) (hb hby d2_6) hr) ⟨hrun, hended, _, _, rfl, ?_, ⟨_, rfl⟩, hW, hsame.mono (by decide) (by decide)⟩
  show Q_rmOk_3_2_1 Z a1 ki x0 x1 x2 x3 h0 n0 _ s₁.heap _
  rw [e0]
  exact ⟨rfl, N0, rfl⟩
theorem ef_rmLaw2 (m : MethodId) (x0 : Int32) (x1 : Int32) (x2 : Int32) (x3 : Int32) (x4 : Int32) : entryFrame m #[(.int x0), (.int x1), (.int x2), (.int x3), (.int x4)] maxLocals = mkF m 0 #[.val (.int x0), .val (.int x1), .val (.int x2), .val (.int x3), .val (.int x4), .unset, .unset, .unset, .unset, .unset] [] := by first | (simp [entryFrame, mkF, argsToLocals, Value.category, maxLocals]; done) | rfl
def Q_rmLaw2 (Z : State) (p0 : Int32) (x0 : Int32) (x1 : Int32) (x2 : Int32) (x3 : Int32) (h0 : Heap) (n0 : Nat) (v : Option Value) (h : Heap) (L : List Loc) : Prop := v = some (.int (1 : Int32)) ∧ Fr n0 L ∧ Keep h0 h []
set_option maxRecDepth 65536 in
set_option maxHeartbeats 40000000 in
theorem rmLaw2 (l : Launch) (Z : State) (a0 : Array Value) (hw : ∀ d ∈ tables_1, d.before a0 Z = true) (ws : List Jvm.Cond) (p0 : Int32) (x0 : Int32) (x1 : Int32) (x2 : Int32) (x3 : Int32) (h0 : Heap) (n0 : Nat) (Z0 : n0 ≤ h0.size) (hn : (p0 &&& (3 : Int32) = (1 : Int32))) :
    MetFree l x (head1 (Jvm.Cond.code x code maxLocals ret :: ws) room_1) (fun a U => a = #[(.int p0), (.int x0), (.int x1), (.int x2), (.int x3)] ∧ Z.Warmed39 U.vm ∧ U.heap = h0) (fun _ _ _ _ _ => True) (fun _ U o U' => ∃ v L, o = .returned v ∧ Q_rmLaw2 Z p0 x0 x1 x2 x3 h0 n0 v U'.heap L ∧ FrameEnd U o U' L 16 128) := by
  refine MetFree.of_bodySF (plainFor_of_name pn_0) hisR ?_
  intro p e s m args below meth c s₁ Bd hml0 hP hK
  obtain ⟨rfl, hZ, hh⟩ := hP
  have hx := Bd.exec
  have hby := Bd.bytes
  have hml : c.maxLocals = 10 := hml0
  have hown : s.vm.findClass "com/example/spillback/spillback/behaviour/PlanSelectorHighestPinLaw" = some m.cls := findClass_of_methodNamed Bd.named
  have hnm := (name_of_methodNamed Bd.named Bd.method).1
  have X0 : Stand p l e room_1 s m #[(.int p0), (.int x0), (.int x1), (.int x2), (.int x3)] below meth c s₁ [] 0 0 := Stand.of_body Bd
  have e0 : s₁.heap = h0 := by rw [← hh, Bd.state]; rfl
  have N0 := Fr.nil n0
  refine own_enter (ef_rmLaw2 m p0 x0 x1 x2 x3) ?_
  refine own_st (fun t_ k_ => XS.iloadN X0.here hx rfl (hb hby at_0) rfl k_) ?_
  show own_Go p e below s₁ (mkF m 1 #[.val (.int p0), .val (.int x0), .val (.int x1), .val (.int x2), .val (.int x3), .unset, .unset, .unset, .unset, .unset] [(.int p0)]) _
  refine own_st (fun t_ k_ => XS.iconst X0.here hx rfl (hb hby at_1) k_) ?_
  show own_Go p e below s₁ (mkF m 2 #[.val (.int p0), .val (.int x0), .val (.int x1), .val (.int x2), .val (.int x3), .unset, .unset, .unset, .unset, .unset] [(.int (3 : Int32)), (.int p0)]) _
  refine own_st (fun t_ k_ => XS.iand X0.here hx rfl (hb hby at_2) rfl k_) ?_
  show own_Go p e below s₁ (mkF m 3 #[.val (.int p0), .val (.int x0), .val (.int x1), .val (.int x2), .val (.int x3), .unset, .unset, .unset, .unset, .unset] [(.int (p0 &&& (3 : Int32)))]) _
  rw [hn]
  show own_Go p e below s₁ (mkF m 3 #[.val (.int p0), .val (.int x0), .val (.int x1), .val (.int x2), .val (.int x3), .unset, .unset, .unset, .unset, .unset] [(.int (1 : Int32))]) _
  refine own_st (fun t_ k_ => XS.iconst X0.here hx rfl (hb hby at_3) k_) ?_
  show own_Go p e below s₁ (mkF m 4 #[.val (.int p0), .val (.int x0), .val (.int x1), .val (.int x2), .val (.int x3), .unset, .unset, .unset, .unset, .unset] [(.int (1 : Int32)), (.int (1 : Int32))]) _
  refine own_st (fun t_ k_ => XS.iadd X0.here hx rfl (hb hby at_4) rfl k_) ?_
  show own_Go p e below s₁ (mkF m 5 #[.val (.int p0), .val (.int x0), .val (.int x1), .val (.int x2), .val (.int x3), .unset, .unset, .unset, .unset, .unset] [(.int (2 : Int32))]) _
  refine own_st (fun t_ k_ => XS.istore X0.here hx rfl (hb hby at_5) rfl (l' := #[.val (.int p0), .val (.int x0), .val (.int x1), .val (.int x2), .val (.int x3), .val (.int (2 : Int32)), .unset, .unset, .unset, .unset]) rfl k_) ?_
  show own_Go p e below s₁ (mkF m 7 #[.val (.int p0), .val (.int x0), .val (.int x1), .val (.int x2), .val (.int x3), .val (.int (2 : Int32)), .unset, .unset, .unset, .unset] []) _
  refine own_st (fun t_ k_ => XS.iconst X0.here hx rfl (hb hby at_7) k_) ?_
  show own_Go p e below s₁ (mkF m 8 #[.val (.int p0), .val (.int x0), .val (.int x1), .val (.int x2), .val (.int x3), .val (.int (2 : Int32)), .unset, .unset, .unset, .unset] [(.int (4 : Int32))]) _
  obtain ⟨T1, h1, k1, X1, e1, E1, A1, st1⟩ := newP X0 hx hZ (hw _ (List.mem_of_getElem? (i := 0) rfl)) e0 (g := (mkF m 8 #[.val (.int p0), .val (.int x0), .val (.int x1), .val (.int x2), .val (.int x3), .val (.int (2 : Int32)), .unset, .unset, .unset, .unset] [(.int (4 : Int32))])) rfl (hb hby at_8) rfl (by decide) (cap := 4) (by decide) (by decide) (by decide) (by decide)
  obtain ⟨b1, g1⟩ : ∃ z, z = h0.size := ⟨_, rfl⟩
  rw [← g1] at A1 st1
  have G1 : n0 ≤ b1 := Nat.le_trans Z0 (Nat.le_of_eq g1.symm)
  have B1 : h0.size ≤ b1 := Nat.le_trans (Keep.refl h0 []).1 (Nat.le_of_eq g1.symm)
  have K2 : Keep h0 h1 [] := (Keep.refl h0 []).ext E1
  have V1 : Arv Z h1 b1 k1 .int (4 : Int32) [(.int (0 : Int32)), (.int (0 : Int32)), (.int (0 : Int32)), (.int (0 : Int32))] (.int (0 : Int32)) := (Arv.new A1 (by decide)).pad (pad_rep [] (.int (0 : Int32)) 4)
  refine own_st st1 ?_
  show own_Go p e below T1 (mkF m 10 #[.val (.int p0), .val (.int x0), .val (.int x1), .val (.int x2), .val (.int x3), .val (.int (2 : Int32)), .unset, .unset, .unset, .unset] [(.ref b1)]) _
  refine own_st (fun t_ k_ => XS.astore X1.here hx rfl (hb hby at_10) rfl rfl (l' := #[.val (.int p0), .val (.int x0), .val (.int x1), .val (.int x2), .val (.int x3), .val (.int (2 : Int32)), .val (.ref b1), .unset, .unset, .unset]) rfl k_) ?_
  show own_Go p e below T1 (mkF m 12 #[.val (.int p0), .val (.int x0), .val (.int x1), .val (.int x2), .val (.int x3), .val (.int (2 : Int32)), .val (.ref b1), .unset, .unset, .unset] []) _
  refine own_st (fun t_ k_ => XS.aload X1.here hx rfl (hb hby at_12) rfl rfl k_) ?_
  show own_Go p e below T1 (mkF m 14 #[.val (.int p0), .val (.int x0), .val (.int x1), .val (.int x2), .val (.int x3), .val (.int (2 : Int32)), .val (.ref b1), .unset, .unset, .unset] [(.ref b1)]) _
  refine own_st (fun t_ k_ => XS.iconst X1.here hx rfl (hb hby at_14) k_) ?_
  show own_Go p e below T1 (mkF m 15 #[.val (.int p0), .val (.int x0), .val (.int x1), .val (.int x2), .val (.int x3), .val (.int (2 : Int32)), .val (.ref b1), .unset, .unset, .unset] [(.int (0 : Int32)), (.ref b1)]) _
  refine own_st (fun t_ k_ => XS.iloadN X1.here hx rfl (hb hby at_15) rfl k_) ?_
  show own_Go p e below T1 (mkF m 16 #[.val (.int p0), .val (.int x0), .val (.int x1), .val (.int x2), .val (.int x3), .val (.int (2 : Int32)), .val (.ref b1), .unset, .unset, .unset] [(.int x0), (.int (0 : Int32)), (.ref b1)]) _
  obtain ⟨cl3, Ar3, q3, Sz3, Nn3, Hh3, Gg3⟩ := id V1
  have hin3 : ¬ ((0 : Int32) < 0 ∨ cl3.slots.size ≤ ((0 : Int32)).toNatClampNeg) := inb_of Sz3 ⟨by decide, by decide⟩
  obtain ⟨T4, h4, X4, e4, W4, st4⟩ := stI X1 hx hZ e1 Ar3 (j := (0 : Int32)) hin3 (g := (mkF m 16 #[.val (.int p0), .val (.int x0), .val (.int x1), .val (.int x2), .val (.int x3), .val (.int (2 : Int32)), .val (.ref b1), .unset, .unset, .unset] [(.int x0), (.int (0 : Int32)), (.ref b1)])) rfl rfl (hb hby at_16)
  have V4 : Arv Z h4 b1 k1 .int (4 : Int32) [(.int x0), (.int (0 : Int32)), (.int (0 : Int32)), (.int (0 : Int32))] (.int (0 : Int32)) := Arv.set Ar3 q3 Sz3 Nn3 Hh3 Gg3 rfl W4 0 rfl (Nat.le_of_ble_eq_true rfl)
  have K5 : Keep h0 h4 [] := K2.wr W4 (Or.inr B1)
  have N4 := Fr.snoc X4 N0 G1
  refine own_st st4 ?_
  show own_Go p e below T4 (mkF m 17 #[.val (.int p0), .val (.int x0), .val (.int x1), .val (.int x2), .val (.int x3), .val (.int (2 : Int32)), .val (.ref b1), .unset, .unset, .unset] []) _
  refine own_st (fun t_ k_ => XS.aload X4.here hx rfl (hb hby at_17) rfl rfl k_) ?_
  show own_Go p e below T4 (mkF m 19 #[.val (.int p0), .val (.int x0), .val (.int x1), .val (.int x2), .val (.int x3), .val (.int (2 : Int32)), .val (.ref b1), .unset, .unset, .unset] [(.ref b1)]) _
  refine own_st (fun t_ k_ => XS.iconst X4.here hx rfl (hb hby at_19) k_) ?_
  show own_Go p e below T4 (mkF m 20 #[.val (.int p0), .val (.int x0), .val (.int x1), .val (.int x2), .val (.int x3), .val (.int (2 : Int32)), .val (.ref b1), .unset, .unset, .unset] [(.int (1 : Int32)), (.ref b1)]) _
  refine own_st (fun t_ k_ => XS.iloadN X4.here hx rfl (hb hby at_20) rfl k_) ?_
  show own_Go p e below T4 (mkF m 21 #[.val (.int p0), .val (.int x0), .val (.int x1), .val (.int x2), .val (.int x3), .val (.int (2 : Int32)), .val (.ref b1), .unset, .unset, .unset] [(.int x1), (.int (1 : Int32)), (.ref b1)]) _
  obtain ⟨cl6, Ar6, q6, Sz6, Nn6, Hh6, Gg6⟩ := id V4
  have hin6 : ¬ ((1 : Int32) < 0 ∨ cl6.slots.size ≤ ((1 : Int32)).toNatClampNeg) := inb_of Sz6 ⟨by decide, by decide⟩
  obtain ⟨T7, h7, X7, e7, W7, st7⟩ := stI X4 hx hZ e4 Ar6 (j := (1 : Int32)) hin6 (g := (mkF m 21 #[.val (.int p0), .val (.int x0), .val (.int x1), .val (.int x2), .val (.int x3), .val (.int (2 : Int32)), .val (.ref b1), .unset, .unset, .unset] [(.int x1), (.int (1 : Int32)), (.ref b1)])) rfl rfl (hb hby at_21)
  have V7 : Arv Z h7 b1 k1 .int (4 : Int32) [(.int x0), (.int x1), (.int (0 : Int32)), (.int (0 : Int32))] (.int (0 : Int32)) := Arv.set Ar6 q6 Sz6 Nn6 Hh6 Gg6 rfl W7 1 rfl (Nat.le_of_ble_eq_true rfl)
  have K8 : Keep h0 h7 [] := K5.wr W7 (Or.inr B1)
  have N7 := Fr.snoc X7 N4 G1
  refine own_st st7 ?_
  show own_Go p e below T7 (mkF m 22 #[.val (.int p0), .val (.int x0), .val (.int x1), .val (.int x2), .val (.int x3), .val (.int (2 : Int32)), .val (.ref b1), .unset, .unset, .unset] []) _
  refine own_st (fun t_ k_ => XS.aload X7.here hx rfl (hb hby at_22) rfl rfl k_) ?_
  show own_Go p e below T7 (mkF m 24 #[.val (.int p0), .val (.int x0), .val (.int x1), .val (.int x2), .val (.int x3), .val (.int (2 : Int32)), .val (.ref b1), .unset, .unset, .unset] [(.ref b1)]) _
  refine own_st (fun t_ k_ => XS.iconst X7.here hx rfl (hb hby at_24) k_) ?_
  show own_Go p e below T7 (mkF m 25 #[.val (.int p0), .val (.int x0), .val (.int x1), .val (.int x2), .val (.int x3), .val (.int (2 : Int32)), .val (.ref b1), .unset, .unset, .unset] [(.int (2 : Int32)), (.ref b1)]) _
  refine own_st (fun t_ k_ => XS.iloadN X7.here hx rfl (hb hby at_25) rfl k_) ?_
  show own_Go p e below T7 (mkF m 26 #[.val (.int p0), .val (.int x0), .val (.int x1), .val (.int x2), .val (.int x3), .val (.int (2 : Int32)), .val (.ref b1), .unset, .unset, .unset] [(.int x2), (.int (2 : Int32)), (.ref b1)]) _
  obtain ⟨cl9, Ar9, q9, Sz9, Nn9, Hh9, Gg9⟩ := id V7
  have hin9 : ¬ ((2 : Int32) < 0 ∨ cl9.slots.size ≤ ((2 : Int32)).toNatClampNeg) := inb_of Sz9 ⟨by decide, by decide⟩
  obtain ⟨T10, h10, X10, e10, W10, st10⟩ := stI X7 hx hZ e7 Ar9 (j := (2 : Int32)) hin9 (g := (mkF m 26 #[.val (.int p0), .val (.int x0), .val (.int x1), .val (.int x2), .val (.int x3), .val (.int (2 : Int32)), .val (.ref b1), .unset, .unset, .unset] [(.int x2), (.int (2 : Int32)), (.ref b1)])) rfl rfl (hb hby at_26)
  have V10 : Arv Z h10 b1 k1 .int (4 : Int32) [(.int x0), (.int x1), (.int x2), (.int (0 : Int32))] (.int (0 : Int32)) := Arv.set Ar9 q9 Sz9 Nn9 Hh9 Gg9 rfl W10 2 rfl (Nat.le_of_ble_eq_true rfl)
  have K11 : Keep h0 h10 [] := K8.wr W10 (Or.inr B1)
  have N10 := Fr.snoc X10 N7 G1
  refine own_st st10 ?_
  show own_Go p e below T10 (mkF m 27 #[.val (.int p0), .val (.int x0), .val (.int x1), .val (.int x2), .val (.int x3), .val (.int (2 : Int32)), .val (.ref b1), .unset, .unset, .unset] []) _
  refine own_st (fun t_ k_ => XS.aload X10.here hx rfl (hb hby at_27) rfl rfl k_) ?_
  show own_Go p e below T10 (mkF m 29 #[.val (.int p0), .val (.int x0), .val (.int x1), .val (.int x2), .val (.int x3), .val (.int (2 : Int32)), .val (.ref b1), .unset, .unset, .unset] [(.ref b1)]) _
  refine own_st (fun t_ k_ => XS.iconst X10.here hx rfl (hb hby at_29) k_) ?_
  show own_Go p e below T10 (mkF m 30 #[.val (.int p0), .val (.int x0), .val (.int x1), .val (.int x2), .val (.int x3), .val (.int (2 : Int32)), .val (.ref b1), .unset, .unset, .unset] [(.int (3 : Int32)), (.ref b1)]) _
  refine own_st (fun t_ k_ => XS.iload X10.here hx rfl (hb hby at_30) rfl k_) ?_
  show own_Go p e below T10 (mkF m 32 #[.val (.int p0), .val (.int x0), .val (.int x1), .val (.int x2), .val (.int x3), .val (.int (2 : Int32)), .val (.ref b1), .unset, .unset, .unset] [(.int x3), (.int (3 : Int32)), (.ref b1)]) _
  obtain ⟨cl12, Ar12, q12, Sz12, Nn12, Hh12, Gg12⟩ := id V10
  have hin12 : ¬ ((3 : Int32) < 0 ∨ cl12.slots.size ≤ ((3 : Int32)).toNatClampNeg) := inb_of Sz12 ⟨by decide, by decide⟩
  obtain ⟨T13, h13, X13, e13, W13, st13⟩ := stI X10 hx hZ e10 Ar12 (j := (3 : Int32)) hin12 (g := (mkF m 32 #[.val (.int p0), .val (.int x0), .val (.int x1), .val (.int x2), .val (.int x3), .val (.int (2 : Int32)), .val (.ref b1), .unset, .unset, .unset] [(.int x3), (.int (3 : Int32)), (.ref b1)])) rfl rfl (hb hby at_32)
  have V13 : Arv Z h13 b1 k1 .int (4 : Int32) [(.int x0), (.int x1), (.int x2), (.int x3)] (.int (0 : Int32)) := Arv.set Ar12 q12 Sz12 Nn12 Hh12 Gg12 rfl W13 3 rfl (Nat.le_of_ble_eq_true rfl)
  have K14 : Keep h0 h13 [] := K11.wr W13 (Or.inr B1)
  have N13 := Fr.snoc X13 N10 G1
  refine own_st st13 ?_
  show own_Go p e below T13 (mkF m 33 #[.val (.int p0), .val (.int x0), .val (.int x1), .val (.int x2), .val (.int x3), .val (.int (2 : Int32)), .val (.ref b1), .unset, .unset, .unset] []) _
  refine own_st (fun t_ k_ => XS.iload X13.here hx rfl (hb hby at_33) rfl k_) ?_
  show own_Go p e below T13 (mkF m 35 #[.val (.int p0), .val (.int x0), .val (.int x1), .val (.int x2), .val (.int x3), .val (.int (2 : Int32)), .val (.ref b1), .unset, .unset, .unset] [(.int (2 : Int32))]) _
  have f15 := (Nat.le_trans (Nat.le_trans (Nat.le_trans (Nat.le_trans (Nat.le_trans Z0 E1.1) (Keep.of_wr W4).1) (Keep.of_wr W7).1) (Keep.of_wr W10).1) (Keep.of_wr W13).1)
  obtain ⟨T16, h16, k16, X16, e16, E16, A16, st16⟩ := newP X13 hx hZ (hw _ (List.mem_of_getElem? (i := 1) rfl)) e13 (g := (mkF m 35 #[.val (.int p0), .val (.int x0), .val (.int x1), .val (.int x2), .val (.int x3), .val (.int (2 : Int32)), .val (.ref b1), .unset, .unset, .unset] [(.int (2 : Int32))])) rfl (hb hby at_35) rfl (by decide) (cap := 2) (by decide) (by decide) (by decide) (by decide)
  obtain ⟨b16, g16⟩ : ∃ z, z = h13.size := ⟨_, rfl⟩
  rw [← g16] at A16 st16
  have G16 : n0 ≤ b16 := Nat.le_trans f15 (Nat.le_of_eq g16.symm)
  have B16 : h0.size ≤ b16 := Nat.le_trans K14.1 (Nat.le_of_eq g16.symm)
  have K17 : Keep h0 h16 [] := K14.ext E16
  have V16 : Arv Z h16 b16 k16 .double (2 : Int32) [(.double (0 : UInt64)), (.double (0 : UInt64))] (.double (0 : UInt64)) := (Arv.new A16 (by decide)).pad (pad_rep [] (.double (0 : UInt64)) 2)
  refine own_st st16 ?_
  show own_Go p e below T16 (mkF m 37 #[.val (.int p0), .val (.int x0), .val (.int x1), .val (.int x2), .val (.int x3), .val (.int (2 : Int32)), .val (.ref b1), .unset, .unset, .unset] [(.ref b16)]) _
  refine own_st (fun t_ k_ => XS.astore X16.here hx rfl (hb hby at_37) rfl rfl (l' := #[.val (.int p0), .val (.int x0), .val (.int x1), .val (.int x2), .val (.int x3), .val (.int (2 : Int32)), .val (.ref b1), .val (.ref b16), .unset, .unset]) rfl k_) ?_
  show own_Go p e below T16 (mkF m 39 #[.val (.int p0), .val (.int x0), .val (.int x1), .val (.int x2), .val (.int x3), .val (.int (2 : Int32)), .val (.ref b1), .val (.ref b16), .unset, .unset] []) _
  refine own_st (fun t_ k_ => XS.aload X16.here hx rfl (hb hby at_39) rfl rfl k_) ?_
  show own_Go p e below T16 (mkF m 41 #[.val (.int p0), .val (.int x0), .val (.int x1), .val (.int x2), .val (.int x3), .val (.int (2 : Int32)), .val (.ref b1), .val (.ref b16), .unset, .unset] [(.ref b16)]) _
  refine own_st (fun t_ k_ => XS.iconst X16.here hx rfl (hb hby at_41) k_) ?_
  show own_Go p e below T16 (mkF m 42 #[.val (.int p0), .val (.int x0), .val (.int x1), .val (.int x2), .val (.int x3), .val (.int (2 : Int32)), .val (.ref b1), .val (.ref b16), .unset, .unset] [(.int (0 : Int32)), (.ref b16)]) _
  refine own_st (fun t_ k_ => XS.iloadN X16.here hx rfl (hb hby at_42) rfl k_) ?_
  show own_Go p e below T16 (mkF m 43 #[.val (.int p0), .val (.int x0), .val (.int x1), .val (.int x2), .val (.int x3), .val (.int (2 : Int32)), .val (.ref b1), .val (.ref b16), .unset, .unset] [(.int x0), (.int (0 : Int32)), (.ref b16)]) _
  refine own_st (fun t_ k_ => XS.i2dS X16.here hx rfl (hb hby at_43) rfl rfl k_) ?_
  show own_Go p e below T16 (mkF m 44 #[.val (.int p0), .val (.int x0), .val (.int x1), .val (.int x2), .val (.int x3), .val (.int (2 : Int32)), .val (.ref b1), .val (.ref b16), .unset, .unset] [(.double (FP.i2d x0)), (.int (0 : Int32)), (.ref b16)]) _
  obtain ⟨cl18, Ar18, q18, Sz18, Nn18, Hh18, Gg18⟩ := id V16
  have hin18 : ¬ ((0 : Int32) < 0 ∨ cl18.slots.size ≤ ((0 : Int32)).toNatClampNeg) := inb_of Sz18 ⟨by decide, by decide⟩
  obtain ⟨T19, h19, X19, e19, W19, st19⟩ := stD X16 hx hZ e16 Ar18 (j := (0 : Int32)) hin18 (g := (mkF m 44 #[.val (.int p0), .val (.int x0), .val (.int x1), .val (.int x2), .val (.int x3), .val (.int (2 : Int32)), .val (.ref b1), .val (.ref b16), .unset, .unset] [(.double (FP.i2d x0)), (.int (0 : Int32)), (.ref b16)])) rfl rfl (hb hby at_44)
  have V19 : Arv Z h19 b16 k16 .double (2 : Int32) [(.double (FP.i2d x0)), (.double (0 : UInt64))] (.double (0 : UInt64)) := Arv.set Ar18 q18 Sz18 Nn18 Hh18 Gg18 rfl W19 0 rfl (Nat.le_of_ble_eq_true rfl)
  have K20 : Keep h0 h19 [] := K17.wr W19 (Or.inr B16)
  have N19 := Fr.snoc X19 N13 G16
  refine own_st st19 ?_
  show own_Go p e below T19 (mkF m 45 #[.val (.int p0), .val (.int x0), .val (.int x1), .val (.int x2), .val (.int x3), .val (.int (2 : Int32)), .val (.ref b1), .val (.ref b16), .unset, .unset] []) _
  refine own_st (fun t_ k_ => XS.iload X19.here hx rfl (hb hby at_45) rfl k_) ?_
  show own_Go p e below T19 (mkF m 47 #[.val (.int p0), .val (.int x0), .val (.int x1), .val (.int x2), .val (.int x3), .val (.int (2 : Int32)), .val (.ref b1), .val (.ref b16), .unset, .unset] [(.int (2 : Int32))]) _
  refine own_st (fun t_ k_ => XS.iconst X19.here hx rfl (hb hby at_47) k_) ?_
  show own_Go p e below T19 (mkF m 48 #[.val (.int p0), .val (.int x0), .val (.int x1), .val (.int x2), .val (.int x3), .val (.int (2 : Int32)), .val (.ref b1), .val (.ref b16), .unset, .unset] [(.int (1 : Int32)), (.int (2 : Int32))]) _
  refine own_st (fun t_ k_ => XS.icmpNo X19.here hx rfl (hb hby at_48) rfl (by decide) k_) ?_
  show own_Go p e below T19 (mkF m 51 #[.val (.int p0), .val (.int x0), .val (.int x1), .val (.int x2), .val (.int x3), .val (.int (2 : Int32)), .val (.ref b1), .val (.ref b16), .unset, .unset] []) _
  refine own_st (fun t_ k_ => XS.aload X19.here hx rfl (hb hby at_51) rfl rfl k_) ?_
  show own_Go p e below T19 (mkF m 53 #[.val (.int p0), .val (.int x0), .val (.int x1), .val (.int x2), .val (.int x3), .val (.int (2 : Int32)), .val (.ref b1), .val (.ref b16), .unset, .unset] [(.ref b16)]) _
  refine own_st (fun t_ k_ => XS.iconst X19.here hx rfl (hb hby at_53) k_) ?_
  show own_Go p e below T19 (mkF m 54 #[.val (.int p0), .val (.int x0), .val (.int x1), .val (.int x2), .val (.int x3), .val (.int (2 : Int32)), .val (.ref b1), .val (.ref b16), .unset, .unset] [(.int (1 : Int32)), (.ref b16)]) _
  refine own_st (fun t_ k_ => XS.iloadN X19.here hx rfl (hb hby at_54) rfl k_) ?_
  show own_Go p e below T19 (mkF m 55 #[.val (.int p0), .val (.int x0), .val (.int x1), .val (.int x2), .val (.int x3), .val (.int (2 : Int32)), .val (.ref b1), .val (.ref b16), .unset, .unset] [(.int x1), (.int (1 : Int32)), (.ref b16)]) _
  refine own_st (fun t_ k_ => XS.i2dS X19.here hx rfl (hb hby at_55) rfl rfl k_) ?_
  show own_Go p e below T19 (mkF m 56 #[.val (.int p0), .val (.int x0), .val (.int x1), .val (.int x2), .val (.int x3), .val (.int (2 : Int32)), .val (.ref b1), .val (.ref b16), .unset, .unset] [(.double (FP.i2d x1)), (.int (1 : Int32)), (.ref b16)]) _
  obtain ⟨cl21, Ar21, q21, Sz21, Nn21, Hh21, Gg21⟩ := id V19
  have hin21 : ¬ ((1 : Int32) < 0 ∨ cl21.slots.size ≤ ((1 : Int32)).toNatClampNeg) := inb_of Sz21 ⟨by decide, by decide⟩
  obtain ⟨T22, h22, X22, e22, W22, st22⟩ := stD X19 hx hZ e19 Ar21 (j := (1 : Int32)) hin21 (g := (mkF m 56 #[.val (.int p0), .val (.int x0), .val (.int x1), .val (.int x2), .val (.int x3), .val (.int (2 : Int32)), .val (.ref b1), .val (.ref b16), .unset, .unset] [(.double (FP.i2d x1)), (.int (1 : Int32)), (.ref b16)])) rfl rfl (hb hby at_56)
  have V22 : Arv Z h22 b16 k16 .double (2 : Int32) [(.double (FP.i2d x0)), (.double (FP.i2d x1))] (.double (0 : UInt64)) := Arv.set Ar21 q21 Sz21 Nn21 Hh21 Gg21 rfl W22 1 rfl (Nat.le_of_ble_eq_true rfl)
  have K23 : Keep h0 h22 [] := K20.wr W22 (Or.inr B16)
  have N22 := Fr.snoc X22 N19 G16
  refine own_st st22 ?_
  show own_Go p e below T22 (mkF m 57 #[.val (.int p0), .val (.int x0), .val (.int x1), .val (.int x2), .val (.int x3), .val (.int (2 : Int32)), .val (.ref b1), .val (.ref b16), .unset, .unset] []) _
  refine own_st (fun t_ k_ => XS.iload X22.here hx rfl (hb hby at_57) rfl k_) ?_
  show own_Go p e below T22 (mkF m 59 #[.val (.int p0), .val (.int x0), .val (.int x1), .val (.int x2), .val (.int x3), .val (.int (2 : Int32)), .val (.ref b1), .val (.ref b16), .unset, .unset] [(.int (2 : Int32))]) _
  refine own_st (fun t_ k_ => XS.iconst X22.here hx rfl (hb hby at_59) k_) ?_
  show own_Go p e below T22 (mkF m 60 #[.val (.int p0), .val (.int x0), .val (.int x1), .val (.int x2), .val (.int x3), .val (.int (2 : Int32)), .val (.ref b1), .val (.ref b16), .unset, .unset] [(.int (2 : Int32)), (.int (2 : Int32))]) _
  refine own_st (fun t_ k_ => XS.icmpYes X22.here hx rfl (pc0 := 60) (pc' := 69) rfl (hb hby at_60) rfl (by decide) (by decide) (by decide) k_) ?_
  show own_Go p e below T22 (mkF m 69 #[.val (.int p0), .val (.int x0), .val (.int x1), .val (.int x2), .val (.int x3), .val (.int (2 : Int32)), .val (.ref b1), .val (.ref b16), .unset, .unset] []) _
  refine own_st (fun t_ k_ => XS.iload X22.here hx rfl (hb hby at_69) rfl k_) ?_
  show own_Go p e below T22 (mkF m 71 #[.val (.int p0), .val (.int x0), .val (.int x1), .val (.int x2), .val (.int x3), .val (.int (2 : Int32)), .val (.ref b1), .val (.ref b16), .unset, .unset] [(.int (2 : Int32))]) _
  refine own_st (fun t_ k_ => XS.iconst X22.here hx rfl (hb hby at_71) k_) ?_
  show own_Go p e below T22 (mkF m 72 #[.val (.int p0), .val (.int x0), .val (.int x1), .val (.int x2), .val (.int x3), .val (.int (2 : Int32)), .val (.ref b1), .val (.ref b16), .unset, .unset] [(.int (3 : Int32)), (.int (2 : Int32))]) _
  refine own_st (fun t_ k_ => XS.icmpYes X22.here hx rfl (pc0 := 72) (pc' := 82) rfl (hb hby at_72) rfl (by decide) (by decide) (by decide) k_) ?_
  show own_Go p e below T22 (mkF m 82 #[.val (.int p0), .val (.int x0), .val (.int x1), .val (.int x2), .val (.int x3), .val (.int (2 : Int32)), .val (.ref b1), .val (.ref b16), .unset, .unset] []) _
  refine own_st (fun t_ k_ => XS.aload X22.here hx rfl (hb hby at_82) rfl rfl k_) ?_
  show own_Go p e below T22 (mkF m 84 #[.val (.int p0), .val (.int x0), .val (.int x1), .val (.int x2), .val (.int x3), .val (.int (2 : Int32)), .val (.ref b1), .val (.ref b16), .unset, .unset] [(.ref b16)]) _
  have f24 := (Nat.le_trans (Nat.le_trans (Nat.le_trans f15 E16.1) (Keep.of_wr W19).1) (Keep.of_wr W22).1)
  obtain ⟨_, _, ⟨T25, L25, k25, n25⟩, -, X25, ⟨Lc25, hQ25, l25, y25, z25⟩, st25⟩ := Jvm.LawKit.callS X22 hx (y := (⟨"com/example/spillback/spillback/behaviour/PlanSelector", "highest", "([D)I"⟩ : MethodName)) hown (mvT hZ (hw _ (List.mem_of_getElem? (i := 2) rfl))) (mvT hZ (hw _ (List.mem_of_getElem? (i := 3) rfl))) (mvT hZ (hw _ (List.mem_of_getElem? (i := 4) rfl))) (mvT hZ (hw _ (List.mem_of_getElem? (i := 5) rfl))) (by decide) (backOf (W := 0) (rmHi2 l Z a0 hw [] b16 k16 _ _ h22 n0 f24 V22) hZ (hw _ (List.mem_of_getElem? (i := 5) rfl)) (hw _ (List.mem_of_getElem? (i := 4) rfl)) (by decide) (by decide)) (g := (mkF m 84 #[.val (.int p0), .val (.int x0), .val (.int x1), .val (.int x2), .val (.int x3), .val (.int (2 : Int32)), .val (.ref b1), .val (.ref b16), .unset, .unset] [(.ref b16)])) rfl (by rw [hml]; rfl) (argsL := [(.ref b16)]) (rest := []) (lenOf pd___D_I rfl) rfl (by show 2 * 0 + _ ≤ _; exact Nat.le_of_eq rfl) (hb hby at_84) (fun _ _ => ⟨rfl, e22, (by decide : 2 + 0 ≤ _), (by decide : 6 + 0 ≤ _)⟩)
  dsimp only [Pt.U, Pt.locs, Pt.cells, Pt.slots] at X25 l25 y25 z25 st25 hQ25
  subst l25 y25 z25
  obtain ⟨r_25, rfl, Nq25, eH25, q25_0⟩ := hQ25
  have N25 := Fr.app N22 Nq25
  refine own_st st25 ?_
  show own_Go p e below T25 (mkF m 87 #[.val (.int p0), .val (.int x0), .val (.int x1), .val (.int x2), .val (.int x3), .val (.int (2 : Int32)), .val (.ref b1), .val (.ref b16), .unset, .unset] [(.int r_25)]) _
  rcases q25_0 with hy | hy
  · skip
    obtain ⟨er_25, hx1⟩ := hy
    subst er_25
    show own_Go p e below T25 (mkF m 87 #[.val (.int p0), .val (.int x0), .val (.int x1), .val (.int x2), .val (.int x3), .val (.int (2 : Int32)), .val (.ref b1), .val (.ref b16), .unset, .unset] [(.int (0 : Int32))]) _
    refine own_st (fun t_ k_ => XS.istore X25.here hx rfl (hb hby at_87) rfl (l' := #[.val (.int p0), .val (.int x0), .val (.int x1), .val (.int x2), .val (.int x3), .val (.int (2 : Int32)), .val (.ref b1), .val (.ref b16), .val (.int (0 : Int32)), .unset]) rfl k_) ?_
    show own_Go p e below T25 (mkF m 89 #[.val (.int p0), .val (.int x0), .val (.int x1), .val (.int x2), .val (.int x3), .val (.int (2 : Int32)), .val (.ref b1), .val (.ref b16), .val (.int (0 : Int32)), .unset] []) _
    refine own_st (fun t_ k_ => XS.iload X25.here hx rfl (hb hby at_89) rfl k_) ?_
    show own_Go p e below T25 (mkF m 91 #[.val (.int p0), .val (.int x0), .val (.int x1), .val (.int x2), .val (.int x3), .val (.int (2 : Int32)), .val (.ref b1), .val (.ref b16), .val (.int (0 : Int32)), .unset] [(.int (0 : Int32))]) _
    refine own_st (fun t_ k_ => XS.ifNo X25.here hx rfl (hb hby at_91) rfl (by decide) k_) ?_
    show own_Go p e below T25 (mkF m 94 #[.val (.int p0), .val (.int x0), .val (.int x1), .val (.int x2), .val (.int x3), .val (.int (2 : Int32)), .val (.ref b1), .val (.ref b16), .val (.int (0 : Int32)), .unset] []) _
    refine own_st (fun t_ k_ => XS.iload X25.here hx rfl (hb hby at_94) rfl k_) ?_
    show own_Go p e below T25 (mkF m 96 #[.val (.int p0), .val (.int x0), .val (.int x1), .val (.int x2), .val (.int x3), .val (.int (2 : Int32)), .val (.ref b1), .val (.ref b16), .val (.int (0 : Int32)), .unset] [(.int (0 : Int32))]) _
    refine own_st (fun t_ k_ => XS.iload X25.here hx rfl (hb hby at_96) rfl k_) ?_
    show own_Go p e below T25 (mkF m 98 #[.val (.int p0), .val (.int x0), .val (.int x1), .val (.int x2), .val (.int x3), .val (.int (2 : Int32)), .val (.ref b1), .val (.ref b16), .val (.int (0 : Int32)), .unset] [(.int (2 : Int32)), (.int (0 : Int32))]) _
    refine own_st (fun t_ k_ => XS.icmpYes X25.here hx rfl (pc0 := 98) (pc' := 103) rfl (hb hby at_98) rfl (by decide) (by decide) (by decide) k_) ?_
    show own_Go p e below T25 (mkF m 103 #[.val (.int p0), .val (.int x0), .val (.int x1), .val (.int x2), .val (.int x3), .val (.int (2 : Int32)), .val (.ref b1), .val (.ref b16), .val (.int (0 : Int32)), .unset] []) _
    refine own_st (fun t_ k_ => XS.aload X25.here hx rfl (hb hby at_103) rfl rfl k_) ?_
    show own_Go p e below T25 (mkF m 105 #[.val (.int p0), .val (.int x0), .val (.int x1), .val (.int x2), .val (.int x3), .val (.int (2 : Int32)), .val (.ref b1), .val (.ref b16), .val (.int (0 : Int32)), .unset] [(.ref b1)]) _
    refine own_st (fun t_ k_ => XS.iload X25.here hx rfl (hb hby at_105) rfl k_) ?_
    show own_Go p e below T25 (mkF m 107 #[.val (.int p0), .val (.int x0), .val (.int x1), .val (.int x2), .val (.int x3), .val (.int (2 : Int32)), .val (.ref b1), .val (.ref b16), .val (.int (0 : Int32)), .unset] [(.int (0 : Int32)), (.ref b1)]) _
    have f26 := (((V13.ext E16).other W19 (Nat.ne_of_lt (Nat.lt_of_lt_of_le V13.lt (Nat.le_of_eq g16.symm)))).other W22 (Nat.ne_of_lt (Nat.lt_of_lt_of_le V13.lt (Nat.le_of_eq g16.symm))))
    obtain ⟨cl27, Ar27, q27, Sz27, Nn27, Hh27, Gg27⟩ := id f26
    have hin27 : ¬ ((0 : Int32) < 0 ∨ cl27.slots.size ≤ ((0 : Int32)).toNatClampNeg) := inb_of Sz27 ⟨by decide, by decide⟩
    have hat27 : cl27.slots[((0 : Int32)).toNatClampNeg]? = some (.int x0) := Has.at Hh27 hin27 rfl
    refine own_st (fun t_ k_ => X25.iaload hx (j := (0 : Int32)) (v := (.int x0)) (by rw [eH25]; exact Ar27.1) (State.isArrayOf_alike hZ.alike Ar27.2.1) Ar27.2.2 hin27 hat27 (g := (mkF m 107 #[.val (.int p0), .val (.int x0), .val (.int x1), .val (.int x2), .val (.int x3), .val (.int (2 : Int32)), .val (.ref b1), .val (.ref b16), .val (.int (0 : Int32)), .unset] [(.int (0 : Int32)), (.ref b1)])) rfl rfl (hb hby at_107) _ k_) ?_
    show own_Go p e below T25 (mkF m 108 #[.val (.int p0), .val (.int x0), .val (.int x1), .val (.int x2), .val (.int x3), .val (.int (2 : Int32)), .val (.ref b1), .val (.ref b16), .val (.int (0 : Int32)), .unset] [(.int x0)]) _
    refine own_st (fun t_ k_ => XS.istore X25.here hx rfl (hb hby at_108) rfl (l' := #[.val (.int p0), .val (.int x0), .val (.int x1), .val (.int x2), .val (.int x3), .val (.int (2 : Int32)), .val (.ref b1), .val (.ref b16), .val (.int (0 : Int32)), .val (.int x0)]) rfl k_) ?_
    show own_Go p e below T25 (mkF m 110 #[.val (.int p0), .val (.int x0), .val (.int x1), .val (.int x2), .val (.int x3), .val (.int (2 : Int32)), .val (.ref b1), .val (.ref b16), .val (.int (0 : Int32)), .val (.int x0)] []) _
    refine own_st (fun t_ k_ => XS.aload X25.here hx rfl (hb hby at_110) rfl rfl k_) ?_
    show own_Go p e below T25 (mkF m 112 #[.val (.int p0), .val (.int x0), .val (.int x1), .val (.int x2), .val (.int x3), .val (.int (2 : Int32)), .val (.ref b1), .val (.ref b16), .val (.int (0 : Int32)), .val (.int x0)] [(.ref b1)]) _
    refine own_st (fun t_ k_ => XS.iconst X25.here hx rfl (hb hby at_112) k_) ?_
    show own_Go p e below T25 (mkF m 113 #[.val (.int p0), .val (.int x0), .val (.int x1), .val (.int x2), .val (.int x3), .val (.int (2 : Int32)), .val (.ref b1), .val (.ref b16), .val (.int (0 : Int32)), .val (.int x0)] [(.int (0 : Int32)), (.ref b1)]) _
    refine own_st (fun t_ k_ => XS.iload X25.here hx rfl (hb hby at_113) rfl k_) ?_
    show own_Go p e below T25 (mkF m 115 #[.val (.int p0), .val (.int x0), .val (.int x1), .val (.int x2), .val (.int x3), .val (.int (2 : Int32)), .val (.ref b1), .val (.ref b16), .val (.int (0 : Int32)), .val (.int x0)] [(.int (2 : Int32)), (.int (0 : Int32)), (.ref b1)]) _
    refine own_st (fun t_ k_ => XS.iload X25.here hx rfl (hb hby at_115) rfl k_) ?_
    show own_Go p e below T25 (mkF m 117 #[.val (.int p0), .val (.int x0), .val (.int x1), .val (.int x2), .val (.int x3), .val (.int (2 : Int32)), .val (.ref b1), .val (.ref b16), .val (.int (0 : Int32)), .val (.int x0)] [(.int (0 : Int32)), (.int (2 : Int32)), (.int (0 : Int32)), (.ref b1)]) _
    refine own_st (fun t_ k_ => XS.iload X25.here hx rfl (hb hby at_117) rfl k_) ?_
    show own_Go p e below T25 (mkF m 119 #[.val (.int p0), .val (.int x0), .val (.int x1), .val (.int x2), .val (.int x3), .val (.int (2 : Int32)), .val (.ref b1), .val (.ref b16), .val (.int (0 : Int32)), .val (.int x0)] [(.int x0), (.int (0 : Int32)), (.int (2 : Int32)), (.int (0 : Int32)), (.ref b1)]) _
    obtain ⟨_, _, ⟨T28, L28, k28, n28⟩, -, X28, ⟨Lc28, hQ28, l28, y28, z28⟩, st28⟩ := Jvm.LawKit.callS X25 hx (y := (⟨"com/example/spillback/spillback/behaviour/PlanSelectorHighestPinLaw", "ok", "([IIIII)Z"⟩ : MethodName)) hown (mvT hZ (hw _ (List.mem_of_getElem? (i := 6) rfl))) (mvT hZ (hw _ (List.mem_of_getElem? (i := 7) rfl))) (mvT hZ (hw _ (List.mem_of_getElem? (i := 8) rfl))) (mvT hZ (hw _ (List.mem_of_getElem? (i := 9) rfl))) (by decide) (backOf (W := 0) (rmOk_0_2_0 l Z a0 hw [] b1 k1 x0 _ _ _ h22 n0 f24 f26) hZ (hw _ (List.mem_of_getElem? (i := 9) rfl)) (hw _ (List.mem_of_getElem? (i := 8) rfl)) (by decide) (by decide)) (g := (mkF m 119 #[.val (.int p0), .val (.int x0), .val (.int x1), .val (.int x2), .val (.int x3), .val (.int (2 : Int32)), .val (.ref b1), .val (.ref b16), .val (.int (0 : Int32)), .val (.int x0)] [(.int x0), (.int (0 : Int32)), (.int (2 : Int32)), (.int (0 : Int32)), (.ref b1)])) rfl (by rw [hml]; rfl) (argsL := [(.ref b1), (.int (0 : Int32)), (.int (2 : Int32)), (.int (0 : Int32)), (.int x0)]) (rest := []) (lenOf pd___IIIII_Z rfl) rfl (by show 2 * 0 + _ ≤ _; exact Nat.le_of_eq rfl) (hb hby at_119) (fun _ _ => ⟨rfl, eH25, (by decide : 2 + 0 ≤ _), (by decide : 6 + 0 ≤ _)⟩)
    dsimp only [Pt.U, Pt.locs, Pt.cells, Pt.slots] at X28 l28 y28 z28 st28 hQ28
    subst l28 y28 z28
    obtain ⟨rfl, Nq28, eH28⟩ := hQ28
    have N28 := Fr.app N25 Nq28
    refine own_st st28 ?_
    show own_Go p e below T28 (mkF m 122 #[.val (.int p0), .val (.int x0), .val (.int x1), .val (.int x2), .val (.int x3), .val (.int (2 : Int32)), .val (.ref b1), .val (.ref b16), .val (.int (0 : Int32)), .val (.int x0)] [(.int (1 : Int32))]) _
    refine own_st (fun t_ k_ => XS.ifNo X28.here hx rfl (hb hby at_122) rfl (by decide) k_) ?_
    show own_Go p e below T28 (mkF m 125 #[.val (.int p0), .val (.int x0), .val (.int x1), .val (.int x2), .val (.int x3), .val (.int (2 : Int32)), .val (.ref b1), .val (.ref b16), .val (.int (0 : Int32)), .val (.int x0)] []) _
    refine own_st (fun t_ k_ => XS.aload X28.here hx rfl (hb hby at_125) rfl rfl k_) ?_
    show own_Go p e below T28 (mkF m 127 #[.val (.int p0), .val (.int x0), .val (.int x1), .val (.int x2), .val (.int x3), .val (.int (2 : Int32)), .val (.ref b1), .val (.ref b16), .val (.int (0 : Int32)), .val (.int x0)] [(.ref b1)]) _
    refine own_st (fun t_ k_ => XS.iconst X28.here hx rfl (hb hby at_127) k_) ?_
    show own_Go p e below T28 (mkF m 128 #[.val (.int p0), .val (.int x0), .val (.int x1), .val (.int x2), .val (.int x3), .val (.int (2 : Int32)), .val (.ref b1), .val (.ref b16), .val (.int (0 : Int32)), .val (.int x0)] [(.int (1 : Int32)), (.ref b1)]) _
    refine own_st (fun t_ k_ => XS.iload X28.here hx rfl (hb hby at_128) rfl k_) ?_
    show own_Go p e below T28 (mkF m 130 #[.val (.int p0), .val (.int x0), .val (.int x1), .val (.int x2), .val (.int x3), .val (.int (2 : Int32)), .val (.ref b1), .val (.ref b16), .val (.int (0 : Int32)), .val (.int x0)] [(.int (2 : Int32)), (.int (1 : Int32)), (.ref b1)]) _
    refine own_st (fun t_ k_ => XS.iload X28.here hx rfl (hb hby at_130) rfl k_) ?_
    show own_Go p e below T28 (mkF m 132 #[.val (.int p0), .val (.int x0), .val (.int x1), .val (.int x2), .val (.int x3), .val (.int (2 : Int32)), .val (.ref b1), .val (.ref b16), .val (.int (0 : Int32)), .val (.int x0)] [(.int (0 : Int32)), (.int (2 : Int32)), (.int (1 : Int32)), (.ref b1)]) _
    refine own_st (fun t_ k_ => XS.iload X28.here hx rfl (hb hby at_132) rfl k_) ?_
    show own_Go p e below T28 (mkF m 134 #[.val (.int p0), .val (.int x0), .val (.int x1), .val (.int x2), .val (.int x3), .val (.int (2 : Int32)), .val (.ref b1), .val (.ref b16), .val (.int (0 : Int32)), .val (.int x0)] [(.int x0), (.int (0 : Int32)), (.int (2 : Int32)), (.int (1 : Int32)), (.ref b1)]) _
    obtain ⟨_, _, ⟨T29, L29, k29, n29⟩, -, X29, ⟨Lc29, hQ29, l29, y29, z29⟩, st29⟩ := Jvm.LawKit.callS X28 hx (y := (⟨"com/example/spillback/spillback/behaviour/PlanSelectorHighestPinLaw", "ok", "([IIIII)Z"⟩ : MethodName)) hown (mvT hZ (hw _ (List.mem_of_getElem? (i := 6) rfl))) (mvT hZ (hw _ (List.mem_of_getElem? (i := 7) rfl))) (mvT hZ (hw _ (List.mem_of_getElem? (i := 8) rfl))) (mvT hZ (hw _ (List.mem_of_getElem? (i := 9) rfl))) (by decide) (backOf (W := 0) (rmOk_1_2_0 l Z a0 hw [] b1 k1 x0 _ _ _ h22 n0 f24 f26 hx1) hZ (hw _ (List.mem_of_getElem? (i := 9) rfl)) (hw _ (List.mem_of_getElem? (i := 8) rfl)) (by decide) (by decide)) (g := (mkF m 134 #[.val (.int p0), .val (.int x0), .val (.int x1), .val (.int x2), .val (.int x3), .val (.int (2 : Int32)), .val (.ref b1), .val (.ref b16), .val (.int (0 : Int32)), .val (.int x0)] [(.int x0), (.int (0 : Int32)), (.int (2 : Int32)), (.int (1 : Int32)), (.ref b1)])) rfl (by rw [hml]; rfl) (argsL := [(.ref b1), (.int (1 : Int32)), (.int (2 : Int32)), (.int (0 : Int32)), (.int x0)]) (rest := []) (lenOf pd___IIIII_Z rfl) rfl (by show 2 * 0 + _ ≤ _; exact Nat.le_of_eq rfl) (hb hby at_134) (fun _ _ => ⟨rfl, eH28, (by decide : 2 + 0 ≤ _), (by decide : 6 + 0 ≤ _)⟩)
    dsimp only [Pt.U, Pt.locs, Pt.cells, Pt.slots] at X29 l29 y29 z29 st29 hQ29
    subst l29 y29 z29
    obtain ⟨rfl, Nq29, eH29⟩ := hQ29
    have N29 := Fr.app N28 Nq29
    refine own_st st29 ?_
    show own_Go p e below T29 (mkF m 137 #[.val (.int p0), .val (.int x0), .val (.int x1), .val (.int x2), .val (.int x3), .val (.int (2 : Int32)), .val (.ref b1), .val (.ref b16), .val (.int (0 : Int32)), .val (.int x0)] [(.int (1 : Int32))]) _
    refine own_st (fun t_ k_ => XS.ifNo X29.here hx rfl (hb hby at_137) rfl (by decide) k_) ?_
    show own_Go p e below T29 (mkF m 140 #[.val (.int p0), .val (.int x0), .val (.int x1), .val (.int x2), .val (.int x3), .val (.int (2 : Int32)), .val (.ref b1), .val (.ref b16), .val (.int (0 : Int32)), .val (.int x0)] []) _
    refine own_st (fun t_ k_ => XS.aload X29.here hx rfl (hb hby at_140) rfl rfl k_) ?_
    show own_Go p e below T29 (mkF m 142 #[.val (.int p0), .val (.int x0), .val (.int x1), .val (.int x2), .val (.int x3), .val (.int (2 : Int32)), .val (.ref b1), .val (.ref b16), .val (.int (0 : Int32)), .val (.int x0)] [(.ref b1)]) _
    refine own_st (fun t_ k_ => XS.iconst X29.here hx rfl (hb hby at_142) k_) ?_
    show own_Go p e below T29 (mkF m 143 #[.val (.int p0), .val (.int x0), .val (.int x1), .val (.int x2), .val (.int x3), .val (.int (2 : Int32)), .val (.ref b1), .val (.ref b16), .val (.int (0 : Int32)), .val (.int x0)] [(.int (2 : Int32)), (.ref b1)]) _
    refine own_st (fun t_ k_ => XS.iload X29.here hx rfl (hb hby at_143) rfl k_) ?_
    show own_Go p e below T29 (mkF m 145 #[.val (.int p0), .val (.int x0), .val (.int x1), .val (.int x2), .val (.int x3), .val (.int (2 : Int32)), .val (.ref b1), .val (.ref b16), .val (.int (0 : Int32)), .val (.int x0)] [(.int (2 : Int32)), (.int (2 : Int32)), (.ref b1)]) _
    refine own_st (fun t_ k_ => XS.iload X29.here hx rfl (hb hby at_145) rfl k_) ?_
    show own_Go p e below T29 (mkF m 147 #[.val (.int p0), .val (.int x0), .val (.int x1), .val (.int x2), .val (.int x3), .val (.int (2 : Int32)), .val (.ref b1), .val (.ref b16), .val (.int (0 : Int32)), .val (.int x0)] [(.int (0 : Int32)), (.int (2 : Int32)), (.int (2 : Int32)), (.ref b1)]) _
    refine own_st (fun t_ k_ => XS.iload X29.here hx rfl (hb hby at_147) rfl k_) ?_
    show own_Go p e below T29 (mkF m 149 #[.val (.int p0), .val (.int x0), .val (.int x1), .val (.int x2), .val (.int x3), .val (.int (2 : Int32)), .val (.ref b1), .val (.ref b16), .val (.int (0 : Int32)), .val (.int x0)] [(.int x0), (.int (0 : Int32)), (.int (2 : Int32)), (.int (2 : Int32)), (.ref b1)]) _
    obtain ⟨_, _, ⟨T30, L30, k30, n30⟩, -, X30, ⟨Lc30, hQ30, l30, y30, z30⟩, st30⟩ := Jvm.LawKit.callS X29 hx (y := (⟨"com/example/spillback/spillback/behaviour/PlanSelectorHighestPinLaw", "ok", "([IIIII)Z"⟩ : MethodName)) hown (mvT hZ (hw _ (List.mem_of_getElem? (i := 6) rfl))) (mvT hZ (hw _ (List.mem_of_getElem? (i := 7) rfl))) (mvT hZ (hw _ (List.mem_of_getElem? (i := 8) rfl))) (mvT hZ (hw _ (List.mem_of_getElem? (i := 9) rfl))) (by decide) (backOf (W := 0) (rmOk_2_2_0 l Z a0 hw [] b1 k1 x0 _ _ _ h22 n0 f24 f26) hZ (hw _ (List.mem_of_getElem? (i := 9) rfl)) (hw _ (List.mem_of_getElem? (i := 8) rfl)) (by decide) (by decide)) (g := (mkF m 149 #[.val (.int p0), .val (.int x0), .val (.int x1), .val (.int x2), .val (.int x3), .val (.int (2 : Int32)), .val (.ref b1), .val (.ref b16), .val (.int (0 : Int32)), .val (.int x0)] [(.int x0), (.int (0 : Int32)), (.int (2 : Int32)), (.int (2 : Int32)), (.ref b1)])) rfl (by rw [hml]; rfl) (argsL := [(.ref b1), (.int (2 : Int32)), (.int (2 : Int32)), (.int (0 : Int32)), (.int x0)]) (rest := []) (lenOf pd___IIIII_Z rfl) rfl (by show 2 * 0 + _ ≤ _; exact Nat.le_of_eq rfl) (hb hby at_149) (fun _ _ => ⟨rfl, eH29, (by decide : 2 + 0 ≤ _), (by decide : 6 + 0 ≤ _)⟩)
    dsimp only [Pt.U, Pt.locs, Pt.cells, Pt.slots] at X30 l30 y30 z30 st30 hQ30
    subst l30 y30 z30
    obtain ⟨rfl, Nq30, eH30⟩ := hQ30
    have N30 := Fr.app N29 Nq30
    refine own_st st30 ?_
    show own_Go p e below T30 (mkF m 152 #[.val (.int p0), .val (.int x0), .val (.int x1), .val (.int x2), .val (.int x3), .val (.int (2 : Int32)), .val (.ref b1), .val (.ref b16), .val (.int (0 : Int32)), .val (.int x0)] [(.int (1 : Int32))]) _
    refine own_st (fun t_ k_ => XS.ifNo X30.here hx rfl (hb hby at_152) rfl (by decide) k_) ?_
    show own_Go p e below T30 (mkF m 155 #[.val (.int p0), .val (.int x0), .val (.int x1), .val (.int x2), .val (.int x3), .val (.int (2 : Int32)), .val (.ref b1), .val (.ref b16), .val (.int (0 : Int32)), .val (.int x0)] []) _
    refine own_st (fun t_ k_ => XS.aload X30.here hx rfl (hb hby at_155) rfl rfl k_) ?_
    show own_Go p e below T30 (mkF m 157 #[.val (.int p0), .val (.int x0), .val (.int x1), .val (.int x2), .val (.int x3), .val (.int (2 : Int32)), .val (.ref b1), .val (.ref b16), .val (.int (0 : Int32)), .val (.int x0)] [(.ref b1)]) _
    refine own_st (fun t_ k_ => XS.iconst X30.here hx rfl (hb hby at_157) k_) ?_
    show own_Go p e below T30 (mkF m 158 #[.val (.int p0), .val (.int x0), .val (.int x1), .val (.int x2), .val (.int x3), .val (.int (2 : Int32)), .val (.ref b1), .val (.ref b16), .val (.int (0 : Int32)), .val (.int x0)] [(.int (3 : Int32)), (.ref b1)]) _
    refine own_st (fun t_ k_ => XS.iload X30.here hx rfl (hb hby at_158) rfl k_) ?_
    show own_Go p e below T30 (mkF m 160 #[.val (.int p0), .val (.int x0), .val (.int x1), .val (.int x2), .val (.int x3), .val (.int (2 : Int32)), .val (.ref b1), .val (.ref b16), .val (.int (0 : Int32)), .val (.int x0)] [(.int (2 : Int32)), (.int (3 : Int32)), (.ref b1)]) _
    refine own_st (fun t_ k_ => XS.iload X30.here hx rfl (hb hby at_160) rfl k_) ?_
    show own_Go p e below T30 (mkF m 162 #[.val (.int p0), .val (.int x0), .val (.int x1), .val (.int x2), .val (.int x3), .val (.int (2 : Int32)), .val (.ref b1), .val (.ref b16), .val (.int (0 : Int32)), .val (.int x0)] [(.int (0 : Int32)), (.int (2 : Int32)), (.int (3 : Int32)), (.ref b1)]) _
    refine own_st (fun t_ k_ => XS.iload X30.here hx rfl (hb hby at_162) rfl k_) ?_
    show own_Go p e below T30 (mkF m 164 #[.val (.int p0), .val (.int x0), .val (.int x1), .val (.int x2), .val (.int x3), .val (.int (2 : Int32)), .val (.ref b1), .val (.ref b16), .val (.int (0 : Int32)), .val (.int x0)] [(.int x0), (.int (0 : Int32)), (.int (2 : Int32)), (.int (3 : Int32)), (.ref b1)]) _
    obtain ⟨_, _, ⟨T31, L31, k31, n31⟩, -, X31, ⟨Lc31, hQ31, l31, y31, z31⟩, st31⟩ := Jvm.LawKit.callS X30 hx (y := (⟨"com/example/spillback/spillback/behaviour/PlanSelectorHighestPinLaw", "ok", "([IIIII)Z"⟩ : MethodName)) hown (mvT hZ (hw _ (List.mem_of_getElem? (i := 6) rfl))) (mvT hZ (hw _ (List.mem_of_getElem? (i := 7) rfl))) (mvT hZ (hw _ (List.mem_of_getElem? (i := 8) rfl))) (mvT hZ (hw _ (List.mem_of_getElem? (i := 9) rfl))) (by decide) (backOf (W := 0) (rmOk_3_2_0 l Z a0 hw [] b1 k1 x0 _ _ _ h22 n0 f24 f26) hZ (hw _ (List.mem_of_getElem? (i := 9) rfl)) (hw _ (List.mem_of_getElem? (i := 8) rfl)) (by decide) (by decide)) (g := (mkF m 164 #[.val (.int p0), .val (.int x0), .val (.int x1), .val (.int x2), .val (.int x3), .val (.int (2 : Int32)), .val (.ref b1), .val (.ref b16), .val (.int (0 : Int32)), .val (.int x0)] [(.int x0), (.int (0 : Int32)), (.int (2 : Int32)), (.int (3 : Int32)), (.ref b1)])) rfl (by rw [hml]; rfl) (argsL := [(.ref b1), (.int (3 : Int32)), (.int (2 : Int32)), (.int (0 : Int32)), (.int x0)]) (rest := []) (lenOf pd___IIIII_Z rfl) rfl (by show 2 * 0 + _ ≤ _; exact Nat.le_of_eq rfl) (hb hby at_164) (fun _ _ => ⟨rfl, eH30, (by decide : 2 + 0 ≤ _), (by decide : 6 + 0 ≤ _)⟩)
    dsimp only [Pt.U, Pt.locs, Pt.cells, Pt.slots] at X31 l31 y31 z31 st31 hQ31
    subst l31 y31 z31
    obtain ⟨rfl, Nq31, eH31⟩ := hQ31
    have N31 := Fr.app N30 Nq31
    refine own_st st31 ?_
    show own_Go p e below T31 (mkF m 167 #[.val (.int p0), .val (.int x0), .val (.int x1), .val (.int x2), .val (.int x3), .val (.int (2 : Int32)), .val (.ref b1), .val (.ref b16), .val (.int (0 : Int32)), .val (.int x0)] [(.int (1 : Int32))]) _
    refine own_st (fun t_ k_ => XS.ifNo X31.here hx rfl (hb hby at_167) rfl (by decide) k_) ?_
    show own_Go p e below T31 (mkF m 170 #[.val (.int p0), .val (.int x0), .val (.int x1), .val (.int x2), .val (.int x3), .val (.int (2 : Int32)), .val (.ref b1), .val (.ref b16), .val (.int (0 : Int32)), .val (.int x0)] []) _
    refine own_st (fun t_ k_ => XS.iconst X31.here hx rfl (hb hby at_170) k_) ?_
    show own_Go p e below T31 (mkF m 171 #[.val (.int p0), .val (.int x0), .val (.int x1), .val (.int x2), .val (.int x3), .val (.int (2 : Int32)), .val (.ref b1), .val (.ref b16), .val (.int (0 : Int32)), .val (.int x0)] [(.int (1 : Int32))]) _
    refine own_st (fun t_ k_ => XS.goto X31.here hx rfl (pc0 := 171) (pc' := 175) rfl (hb hby at_171) (by decide) (by decide) k_) ?_
    show own_Go p e below T31 (mkF m 175 #[.val (.int p0), .val (.int x0), .val (.int x1), .val (.int x2), .val (.int x3), .val (.int (2 : Int32)), .val (.ref b1), .val (.ref b16), .val (.int (0 : Int32)), .val (.int x0)] [(.int (1 : Int32))]) _
    obtain ⟨fs, hr, hrun, hended, hW, hsame⟩ := X31.leave (v := some (.int (1 : Int32))) (fun h => by rw [Bd.returns] at h; cases h)
    refine own_fin (retN X31 hx (t := .boolean) Bd.returns (by simp) (hb hby at_175) hr) ⟨hrun, hended, _, _, rfl, ?_, ⟨_, rfl⟩, hW, hsame.mono (by decide) (by decide)⟩
    show Q_rmLaw2 Z p0 x0 x1 x2 x3 h0 n0 _ T31.heap _
    rw [eH31]
    exact ⟨rfl, N31, K23⟩
  · skip
    obtain ⟨er_25, hx0⟩ := hy
    subst er_25
    show own_Go p e below T25 (mkF m 87 #[.val (.int p0), .val (.int x0), .val (.int x1), .val (.int x2), .val (.int x3), .val (.int (2 : Int32)), .val (.ref b1), .val (.ref b16), .unset, .unset] [(.int (1 : Int32))]) _
    refine own_st (fun t_ k_ => XS.istore X25.here hx rfl (hb hby at_87) rfl (l' := #[.val (.int p0), .val (.int x0), .val (.int x1), .val (.int x2), .val (.int x3), .val (.int (2 : Int32)), .val (.ref b1), .val (.ref b16), .val (.int (1 : Int32)), .unset]) rfl k_) ?_
    show own_Go p e below T25 (mkF m 89 #[.val (.int p0), .val (.int x0), .val (.int x1), .val (.int x2), .val (.int x3), .val (.int (2 : Int32)), .val (.ref b1), .val (.ref b16), .val (.int (1 : Int32)), .unset] []) _
    refine own_st (fun t_ k_ => XS.iload X25.here hx rfl (hb hby at_89) rfl k_) ?_
    show own_Go p e below T25 (mkF m 91 #[.val (.int p0), .val (.int x0), .val (.int x1), .val (.int x2), .val (.int x3), .val (.int (2 : Int32)), .val (.ref b1), .val (.ref b16), .val (.int (1 : Int32)), .unset] [(.int (1 : Int32))]) _
    refine own_st (fun t_ k_ => XS.ifNo X25.here hx rfl (hb hby at_91) rfl (by decide) k_) ?_
    show own_Go p e below T25 (mkF m 94 #[.val (.int p0), .val (.int x0), .val (.int x1), .val (.int x2), .val (.int x3), .val (.int (2 : Int32)), .val (.ref b1), .val (.ref b16), .val (.int (1 : Int32)), .unset] []) _
    refine own_st (fun t_ k_ => XS.iload X25.here hx rfl (hb hby at_94) rfl k_) ?_
    show own_Go p e below T25 (mkF m 96 #[.val (.int p0), .val (.int x0), .val (.int x1), .val (.int x2), .val (.int x3), .val (.int (2 : Int32)), .val (.ref b1), .val (.ref b16), .val (.int (1 : Int32)), .unset] [(.int (1 : Int32))]) _
    refine own_st (fun t_ k_ => XS.iload X25.here hx rfl (hb hby at_96) rfl k_) ?_
    show own_Go p e below T25 (mkF m 98 #[.val (.int p0), .val (.int x0), .val (.int x1), .val (.int x2), .val (.int x3), .val (.int (2 : Int32)), .val (.ref b1), .val (.ref b16), .val (.int (1 : Int32)), .unset] [(.int (2 : Int32)), (.int (1 : Int32))]) _
    refine own_st (fun t_ k_ => XS.icmpYes X25.here hx rfl (pc0 := 98) (pc' := 103) rfl (hb hby at_98) rfl (by decide) (by decide) (by decide) k_) ?_
    show own_Go p e below T25 (mkF m 103 #[.val (.int p0), .val (.int x0), .val (.int x1), .val (.int x2), .val (.int x3), .val (.int (2 : Int32)), .val (.ref b1), .val (.ref b16), .val (.int (1 : Int32)), .unset] []) _
    refine own_st (fun t_ k_ => XS.aload X25.here hx rfl (hb hby at_103) rfl rfl k_) ?_
    show own_Go p e below T25 (mkF m 105 #[.val (.int p0), .val (.int x0), .val (.int x1), .val (.int x2), .val (.int x3), .val (.int (2 : Int32)), .val (.ref b1), .val (.ref b16), .val (.int (1 : Int32)), .unset] [(.ref b1)]) _
    refine own_st (fun t_ k_ => XS.iload X25.here hx rfl (hb hby at_105) rfl k_) ?_
    show own_Go p e below T25 (mkF m 107 #[.val (.int p0), .val (.int x0), .val (.int x1), .val (.int x2), .val (.int x3), .val (.int (2 : Int32)), .val (.ref b1), .val (.ref b16), .val (.int (1 : Int32)), .unset] [(.int (1 : Int32)), (.ref b1)]) _
    have f32 := (((V13.ext E16).other W19 (Nat.ne_of_lt (Nat.lt_of_lt_of_le V13.lt (Nat.le_of_eq g16.symm)))).other W22 (Nat.ne_of_lt (Nat.lt_of_lt_of_le V13.lt (Nat.le_of_eq g16.symm))))
    obtain ⟨cl33, Ar33, q33, Sz33, Nn33, Hh33, Gg33⟩ := id f32
    have hin33 : ¬ ((1 : Int32) < 0 ∨ cl33.slots.size ≤ ((1 : Int32)).toNatClampNeg) := inb_of Sz33 ⟨by decide, by decide⟩
    have hat33 : cl33.slots[((1 : Int32)).toNatClampNeg]? = some (.int x1) := Has.at Hh33 hin33 rfl
    refine own_st (fun t_ k_ => X25.iaload hx (j := (1 : Int32)) (v := (.int x1)) (by rw [eH25]; exact Ar33.1) (State.isArrayOf_alike hZ.alike Ar33.2.1) Ar33.2.2 hin33 hat33 (g := (mkF m 107 #[.val (.int p0), .val (.int x0), .val (.int x1), .val (.int x2), .val (.int x3), .val (.int (2 : Int32)), .val (.ref b1), .val (.ref b16), .val (.int (1 : Int32)), .unset] [(.int (1 : Int32)), (.ref b1)])) rfl rfl (hb hby at_107) _ k_) ?_
    show own_Go p e below T25 (mkF m 108 #[.val (.int p0), .val (.int x0), .val (.int x1), .val (.int x2), .val (.int x3), .val (.int (2 : Int32)), .val (.ref b1), .val (.ref b16), .val (.int (1 : Int32)), .unset] [(.int x1)]) _
    refine own_st (fun t_ k_ => XS.istore X25.here hx rfl (hb hby at_108) rfl (l' := #[.val (.int p0), .val (.int x0), .val (.int x1), .val (.int x2), .val (.int x3), .val (.int (2 : Int32)), .val (.ref b1), .val (.ref b16), .val (.int (1 : Int32)), .val (.int x1)]) rfl k_) ?_
    show own_Go p e below T25 (mkF m 110 #[.val (.int p0), .val (.int x0), .val (.int x1), .val (.int x2), .val (.int x3), .val (.int (2 : Int32)), .val (.ref b1), .val (.ref b16), .val (.int (1 : Int32)), .val (.int x1)] []) _
    refine own_st (fun t_ k_ => XS.aload X25.here hx rfl (hb hby at_110) rfl rfl k_) ?_
    show own_Go p e below T25 (mkF m 112 #[.val (.int p0), .val (.int x0), .val (.int x1), .val (.int x2), .val (.int x3), .val (.int (2 : Int32)), .val (.ref b1), .val (.ref b16), .val (.int (1 : Int32)), .val (.int x1)] [(.ref b1)]) _
    refine own_st (fun t_ k_ => XS.iconst X25.here hx rfl (hb hby at_112) k_) ?_
    show own_Go p e below T25 (mkF m 113 #[.val (.int p0), .val (.int x0), .val (.int x1), .val (.int x2), .val (.int x3), .val (.int (2 : Int32)), .val (.ref b1), .val (.ref b16), .val (.int (1 : Int32)), .val (.int x1)] [(.int (0 : Int32)), (.ref b1)]) _
    refine own_st (fun t_ k_ => XS.iload X25.here hx rfl (hb hby at_113) rfl k_) ?_
    show own_Go p e below T25 (mkF m 115 #[.val (.int p0), .val (.int x0), .val (.int x1), .val (.int x2), .val (.int x3), .val (.int (2 : Int32)), .val (.ref b1), .val (.ref b16), .val (.int (1 : Int32)), .val (.int x1)] [(.int (2 : Int32)), (.int (0 : Int32)), (.ref b1)]) _
    refine own_st (fun t_ k_ => XS.iload X25.here hx rfl (hb hby at_115) rfl k_) ?_
    show own_Go p e below T25 (mkF m 117 #[.val (.int p0), .val (.int x0), .val (.int x1), .val (.int x2), .val (.int x3), .val (.int (2 : Int32)), .val (.ref b1), .val (.ref b16), .val (.int (1 : Int32)), .val (.int x1)] [(.int (1 : Int32)), (.int (2 : Int32)), (.int (0 : Int32)), (.ref b1)]) _
    refine own_st (fun t_ k_ => XS.iload X25.here hx rfl (hb hby at_117) rfl k_) ?_
    show own_Go p e below T25 (mkF m 119 #[.val (.int p0), .val (.int x0), .val (.int x1), .val (.int x2), .val (.int x3), .val (.int (2 : Int32)), .val (.ref b1), .val (.ref b16), .val (.int (1 : Int32)), .val (.int x1)] [(.int x1), (.int (1 : Int32)), (.int (2 : Int32)), (.int (0 : Int32)), (.ref b1)]) _
    obtain ⟨_, _, ⟨T34, L34, k34, n34⟩, -, X34, ⟨Lc34, hQ34, l34, y34, z34⟩, st34⟩ := Jvm.LawKit.callS X25 hx (y := (⟨"com/example/spillback/spillback/behaviour/PlanSelectorHighestPinLaw", "ok", "([IIIII)Z"⟩ : MethodName)) hown (mvT hZ (hw _ (List.mem_of_getElem? (i := 6) rfl))) (mvT hZ (hw _ (List.mem_of_getElem? (i := 7) rfl))) (mvT hZ (hw _ (List.mem_of_getElem? (i := 8) rfl))) (mvT hZ (hw _ (List.mem_of_getElem? (i := 9) rfl))) (by decide) (backOf (W := 0) (rmOk_0_2_1 l Z a0 hw [] b1 k1 _ x1 _ _ h22 n0 f24 f32 hx0) hZ (hw _ (List.mem_of_getElem? (i := 9) rfl)) (hw _ (List.mem_of_getElem? (i := 8) rfl)) (by decide) (by decide)) (g := (mkF m 119 #[.val (.int p0), .val (.int x0), .val (.int x1), .val (.int x2), .val (.int x3), .val (.int (2 : Int32)), .val (.ref b1), .val (.ref b16), .val (.int (1 : Int32)), .val (.int x1)] [(.int x1), (.int (1 : Int32)), (.int (2 : Int32)), (.int (0 : Int32)), (.ref b1)])) rfl (by rw [hml]; rfl) (argsL := [(.ref b1), (.int (0 : Int32)), (.int (2 : Int32)), (.int (1 : Int32)), (.int x1)]) (rest := []) (lenOf pd___IIIII_Z rfl) rfl (by show 2 * 0 + _ ≤ _; exact Nat.le_of_eq rfl) (hb hby at_119) (fun _ _ => ⟨rfl, eH25, (by decide : 2 + 0 ≤ _), (by decide : 6 + 0 ≤ _)⟩)
    dsimp only [Pt.U, Pt.locs, Pt.cells, Pt.slots] at X34 l34 y34 z34 st34 hQ34
    subst l34 y34 z34
    obtain ⟨rfl, Nq34, eH34⟩ := hQ34
    have N34 := Fr.app N25 Nq34
    refine own_st st34 ?_
    show own_Go p e below T34 (mkF m 122 #[.val (.int p0), .val (.int x0), .val (.int x1), .val (.int x2), .val (.int x3), .val (.int (2 : Int32)), .val (.ref b1), .val (.ref b16), .val (.int (1 : Int32)), .val (.int x1)] [(.int (1 : Int32))]) _
    refine own_st (fun t_ k_ => XS.ifNo X34.here hx rfl (hb hby at_122) rfl (by decide) k_) ?_
    show own_Go p e below T34 (mkF m 125 #[.val (.int p0), .val (.int x0), .val (.int x1), .val (.int x2), .val (.int x3), .val (.int (2 : Int32)), .val (.ref b1), .val (.ref b16), .val (.int (1 : Int32)), .val (.int x1)] []) _
    refine own_st (fun t_ k_ => XS.aload X34.here hx rfl (hb hby at_125) rfl rfl k_) ?_
    show own_Go p e below T34 (mkF m 127 #[.val (.int p0), .val (.int x0), .val (.int x1), .val (.int x2), .val (.int x3), .val (.int (2 : Int32)), .val (.ref b1), .val (.ref b16), .val (.int (1 : Int32)), .val (.int x1)] [(.ref b1)]) _
    refine own_st (fun t_ k_ => XS.iconst X34.here hx rfl (hb hby at_127) k_) ?_
    show own_Go p e below T34 (mkF m 128 #[.val (.int p0), .val (.int x0), .val (.int x1), .val (.int x2), .val (.int x3), .val (.int (2 : Int32)), .val (.ref b1), .val (.ref b16), .val (.int (1 : Int32)), .val (.int x1)] [(.int (1 : Int32)), (.ref b1)]) _
    refine own_st (fun t_ k_ => XS.iload X34.here hx rfl (hb hby at_128) rfl k_) ?_
    show own_Go p e below T34 (mkF m 130 #[.val (.int p0), .val (.int x0), .val (.int x1), .val (.int x2), .val (.int x3), .val (.int (2 : Int32)), .val (.ref b1), .val (.ref b16), .val (.int (1 : Int32)), .val (.int x1)] [(.int (2 : Int32)), (.int (1 : Int32)), (.ref b1)]) _
    refine own_st (fun t_ k_ => XS.iload X34.here hx rfl (hb hby at_130) rfl k_) ?_
    show own_Go p e below T34 (mkF m 132 #[.val (.int p0), .val (.int x0), .val (.int x1), .val (.int x2), .val (.int x3), .val (.int (2 : Int32)), .val (.ref b1), .val (.ref b16), .val (.int (1 : Int32)), .val (.int x1)] [(.int (1 : Int32)), (.int (2 : Int32)), (.int (1 : Int32)), (.ref b1)]) _
    refine own_st (fun t_ k_ => XS.iload X34.here hx rfl (hb hby at_132) rfl k_) ?_
    show own_Go p e below T34 (mkF m 134 #[.val (.int p0), .val (.int x0), .val (.int x1), .val (.int x2), .val (.int x3), .val (.int (2 : Int32)), .val (.ref b1), .val (.ref b16), .val (.int (1 : Int32)), .val (.int x1)] [(.int x1), (.int (1 : Int32)), (.int (2 : Int32)), (.int (1 : Int32)), (.ref b1)]) _
    obtain ⟨_, _, ⟨T35, L35, k35, n35⟩, -, X35, ⟨Lc35, hQ35, l35, y35, z35⟩, st35⟩ := Jvm.LawKit.callS X34 hx (y := (⟨"com/example/spillback/spillback/behaviour/PlanSelectorHighestPinLaw", "ok", "([IIIII)Z"⟩ : MethodName)) hown (mvT hZ (hw _ (List.mem_of_getElem? (i := 6) rfl))) (mvT hZ (hw _ (List.mem_of_getElem? (i := 7) rfl))) (mvT hZ (hw _ (List.mem_of_getElem? (i := 8) rfl))) (mvT hZ (hw _ (List.mem_of_getElem? (i := 9) rfl))) (by decide) (backOf (W := 0) (rmOk_1_2_1 l Z a0 hw [] b1 k1 _ x1 _ _ h22 n0 f24 f32) hZ (hw _ (List.mem_of_getElem? (i := 9) rfl)) (hw _ (List.mem_of_getElem? (i := 8) rfl)) (by decide) (by decide)) (g := (mkF m 134 #[.val (.int p0), .val (.int x0), .val (.int x1), .val (.int x2), .val (.int x3), .val (.int (2 : Int32)), .val (.ref b1), .val (.ref b16), .val (.int (1 : Int32)), .val (.int x1)] [(.int x1), (.int (1 : Int32)), (.int (2 : Int32)), (.int (1 : Int32)), (.ref b1)])) rfl (by rw [hml]; rfl) (argsL := [(.ref b1), (.int (1 : Int32)), (.int (2 : Int32)), (.int (1 : Int32)), (.int x1)]) (rest := []) (lenOf pd___IIIII_Z rfl) rfl (by show 2 * 0 + _ ≤ _; exact Nat.le_of_eq rfl) (hb hby at_134) (fun _ _ => ⟨rfl, eH34, (by decide : 2 + 0 ≤ _), (by decide : 6 + 0 ≤ _)⟩)
    dsimp only [Pt.U, Pt.locs, Pt.cells, Pt.slots] at X35 l35 y35 z35 st35 hQ35
    subst l35 y35 z35
    obtain ⟨rfl, Nq35, eH35⟩ := hQ35
    have N35 := Fr.app N34 Nq35
    refine own_st st35 ?_
    show own_Go p e below T35 (mkF m 137 #[.val (.int p0), .val (.int x0), .val (.int x1), .val (.int x2), .val (.int x3), .val (.int (2 : Int32)), .val (.ref b1), .val (.ref b16), .val (.int (1 : Int32)), .val (.int x1)] [(.int (1 : Int32))]) _
    refine own_st (fun t_ k_ => XS.ifNo X35.here hx rfl (hb hby at_137) rfl (by decide) k_) ?_
    show own_Go p e below T35 (mkF m 140 #[.val (.int p0), .val (.int x0), .val (.int x1), .val (.int x2), .val (.int x3), .val (.int (2 : Int32)), .val (.ref b1), .val (.ref b16), .val (.int (1 : Int32)), .val (.int x1)] []) _
    refine own_st (fun t_ k_ => XS.aload X35.here hx rfl (hb hby at_140) rfl rfl k_) ?_
    show own_Go p e below T35 (mkF m 142 #[.val (.int p0), .val (.int x0), .val (.int x1), .val (.int x2), .val (.int x3), .val (.int (2 : Int32)), .val (.ref b1), .val (.ref b16), .val (.int (1 : Int32)), .val (.int x1)] [(.ref b1)]) _
    refine own_st (fun t_ k_ => XS.iconst X35.here hx rfl (hb hby at_142) k_) ?_
    show own_Go p e below T35 (mkF m 143 #[.val (.int p0), .val (.int x0), .val (.int x1), .val (.int x2), .val (.int x3), .val (.int (2 : Int32)), .val (.ref b1), .val (.ref b16), .val (.int (1 : Int32)), .val (.int x1)] [(.int (2 : Int32)), (.ref b1)]) _
    refine own_st (fun t_ k_ => XS.iload X35.here hx rfl (hb hby at_143) rfl k_) ?_
    show own_Go p e below T35 (mkF m 145 #[.val (.int p0), .val (.int x0), .val (.int x1), .val (.int x2), .val (.int x3), .val (.int (2 : Int32)), .val (.ref b1), .val (.ref b16), .val (.int (1 : Int32)), .val (.int x1)] [(.int (2 : Int32)), (.int (2 : Int32)), (.ref b1)]) _
    refine own_st (fun t_ k_ => XS.iload X35.here hx rfl (hb hby at_145) rfl k_) ?_
    show own_Go p e below T35 (mkF m 147 #[.val (.int p0), .val (.int x0), .val (.int x1), .val (.int x2), .val (.int x3), .val (.int (2 : Int32)), .val (.ref b1), .val (.ref b16), .val (.int (1 : Int32)), .val (.int x1)] [(.int (1 : Int32)), (.int (2 : Int32)), (.int (2 : Int32)), (.ref b1)]) _
    refine own_st (fun t_ k_ => XS.iload X35.here hx rfl (hb hby at_147) rfl k_) ?_
    show own_Go p e below T35 (mkF m 149 #[.val (.int p0), .val (.int x0), .val (.int x1), .val (.int x2), .val (.int x3), .val (.int (2 : Int32)), .val (.ref b1), .val (.ref b16), .val (.int (1 : Int32)), .val (.int x1)] [(.int x1), (.int (1 : Int32)), (.int (2 : Int32)), (.int (2 : Int32)), (.ref b1)]) _
    obtain ⟨_, _, ⟨T36, L36, k36, n36⟩, -, X36, ⟨Lc36, hQ36, l36, y36, z36⟩, st36⟩ := Jvm.LawKit.callS X35 hx (y := (⟨"com/example/spillback/spillback/behaviour/PlanSelectorHighestPinLaw", "ok", "([IIIII)Z"⟩ : MethodName)) hown (mvT hZ (hw _ (List.mem_of_getElem? (i := 6) rfl))) (mvT hZ (hw _ (List.mem_of_getElem? (i := 7) rfl))) (mvT hZ (hw _ (List.mem_of_getElem? (i := 8) rfl))) (mvT hZ (hw _ (List.mem_of_getElem? (i := 9) rfl))) (by decide) (backOf (W := 0) (rmOk_2_2_1 l Z a0 hw [] b1 k1 _ x1 _ _ h22 n0 f24 f32) hZ (hw _ (List.mem_of_getElem? (i := 9) rfl)) (hw _ (List.mem_of_getElem? (i := 8) rfl)) (by decide) (by decide)) (g := (mkF m 149 #[.val (.int p0), .val (.int x0), .val (.int x1), .val (.int x2), .val (.int x3), .val (.int (2 : Int32)), .val (.ref b1), .val (.ref b16), .val (.int (1 : Int32)), .val (.int x1)] [(.int x1), (.int (1 : Int32)), (.int (2 : Int32)), (.int (2 : Int32)), (.ref b1)])) rfl (by rw [hml]; rfl) (argsL := [(.ref b1), (.int (2 : Int32)), (.int (2 : Int32)), (.int (1 : Int32)), (.int x1)]) (rest := []) (lenOf pd___IIIII_Z rfl) rfl (by show 2 * 0 + _ ≤ _; exact Nat.le_of_eq rfl) (hb hby at_149) (fun _ _ => ⟨rfl, eH35, (by decide : 2 + 0 ≤ _), (by decide : 6 + 0 ≤ _)⟩)
    dsimp only [Pt.U, Pt.locs, Pt.cells, Pt.slots] at X36 l36 y36 z36 st36 hQ36
    subst l36 y36 z36
    obtain ⟨rfl, Nq36, eH36⟩ := hQ36
    have N36 := Fr.app N35 Nq36
    refine own_st st36 ?_
    show own_Go p e below T36 (mkF m 152 #[.val (.int p0), .val (.int x0), .val (.int x1), .val (.int x2), .val (.int x3), .val (.int (2 : Int32)), .val (.ref b1), .val (.ref b16), .val (.int (1 : Int32)), .val (.int x1)] [(.int (1 : Int32))]) _
    refine own_st (fun t_ k_ => XS.ifNo X36.here hx rfl (hb hby at_152) rfl (by decide) k_) ?_
    show own_Go p e below T36 (mkF m 155 #[.val (.int p0), .val (.int x0), .val (.int x1), .val (.int x2), .val (.int x3), .val (.int (2 : Int32)), .val (.ref b1), .val (.ref b16), .val (.int (1 : Int32)), .val (.int x1)] []) _
    refine own_st (fun t_ k_ => XS.aload X36.here hx rfl (hb hby at_155) rfl rfl k_) ?_
    show own_Go p e below T36 (mkF m 157 #[.val (.int p0), .val (.int x0), .val (.int x1), .val (.int x2), .val (.int x3), .val (.int (2 : Int32)), .val (.ref b1), .val (.ref b16), .val (.int (1 : Int32)), .val (.int x1)] [(.ref b1)]) _
    refine own_st (fun t_ k_ => XS.iconst X36.here hx rfl (hb hby at_157) k_) ?_
    show own_Go p e below T36 (mkF m 158 #[.val (.int p0), .val (.int x0), .val (.int x1), .val (.int x2), .val (.int x3), .val (.int (2 : Int32)), .val (.ref b1), .val (.ref b16), .val (.int (1 : Int32)), .val (.int x1)] [(.int (3 : Int32)), (.ref b1)]) _
    refine own_st (fun t_ k_ => XS.iload X36.here hx rfl (hb hby at_158) rfl k_) ?_
    show own_Go p e below T36 (mkF m 160 #[.val (.int p0), .val (.int x0), .val (.int x1), .val (.int x2), .val (.int x3), .val (.int (2 : Int32)), .val (.ref b1), .val (.ref b16), .val (.int (1 : Int32)), .val (.int x1)] [(.int (2 : Int32)), (.int (3 : Int32)), (.ref b1)]) _
    refine own_st (fun t_ k_ => XS.iload X36.here hx rfl (hb hby at_160) rfl k_) ?_
    show own_Go p e below T36 (mkF m 162 #[.val (.int p0), .val (.int x0), .val (.int x1), .val (.int x2), .val (.int x3), .val (.int (2 : Int32)), .val (.ref b1), .val (.ref b16), .val (.int (1 : Int32)), .val (.int x1)] [(.int (1 : Int32)), (.int (2 : Int32)), (.int (3 : Int32)), (.ref b1)]) _
    refine own_st (fun t_ k_ => XS.iload X36.here hx rfl (hb hby at_162) rfl k_) ?_
    show own_Go p e below T36 (mkF m 164 #[.val (.int p0), .val (.int x0), .val (.int x1), .val (.int x2), .val (.int x3), .val (.int (2 : Int32)), .val (.ref b1), .val (.ref b16), .val (.int (1 : Int32)), .val (.int x1)] [(.int x1), (.int (1 : Int32)), (.int (2 : Int32)), (.int (3 : Int32)), (.ref b1)]) _
    obtain ⟨_, _, ⟨T37, L37, k37, n37⟩, -, X37, ⟨Lc37, hQ37, l37, y37, z37⟩, st37⟩ := Jvm.LawKit.callS X36 hx (y := (⟨"com/example/spillback/spillback/behaviour/PlanSelectorHighestPinLaw", "ok", "([IIIII)Z"⟩ : MethodName)) hown (mvT hZ (hw _ (List.mem_of_getElem? (i := 6) rfl))) (mvT hZ (hw _ (List.mem_of_getElem? (i := 7) rfl))) (mvT hZ (hw _ (List.mem_of_getElem? (i := 8) rfl))) (mvT hZ (hw _ (List.mem_of_getElem? (i := 9) rfl))) (by decide) (backOf (W := 0) (rmOk_3_2_1 l Z a0 hw [] b1 k1 _ x1 _ _ h22 n0 f24 f32) hZ (hw _ (List.mem_of_getElem? (i := 9) rfl)) (hw _ (List.mem_of_getElem? (i := 8) rfl)) (by decide) (by decide)) (g := (mkF m 164 #[.val (.int p0), .val (.int x0), .val (.int x1), .val (.int x2), .val (.int x3), .val (.int (2 : Int32)), .val (.ref b1), .val (.ref b16), .val (.int (1 : Int32)), .val (.int x1)] [(.int x1), (.int (1 : Int32)), (.int (2 : Int32)), (.int (3 : Int32)), (.ref b1)])) rfl (by rw [hml]; rfl) (argsL := [(.ref b1), (.int (3 : Int32)), (.int (2 : Int32)), (.int (1 : Int32)), (.int x1)]) (rest := []) (lenOf pd___IIIII_Z rfl) rfl (by show 2 * 0 + _ ≤ _; exact Nat.le_of_eq rfl) (hb hby at_164) (fun _ _ => ⟨rfl, eH36, (by decide : 2 + 0 ≤ _), (by decide : 6 + 0 ≤ _)⟩)
    dsimp only [Pt.U, Pt.locs, Pt.cells, Pt.slots] at X37 l37 y37 z37 st37 hQ37
    subst l37 y37 z37
    obtain ⟨rfl, Nq37, eH37⟩ := hQ37
    have N37 := Fr.app N36 Nq37
    refine own_st st37 ?_
    show own_Go p e below T37 (mkF m 167 #[.val (.int p0), .val (.int x0), .val (.int x1), .val (.int x2), .val (.int x3), .val (.int (2 : Int32)), .val (.ref b1), .val (.ref b16), .val (.int (1 : Int32)), .val (.int x1)] [(.int (1 : Int32))]) _
    refine own_st (fun t_ k_ => XS.ifNo X37.here hx rfl (hb hby at_167) rfl (by decide) k_) ?_
    show own_Go p e below T37 (mkF m 170 #[.val (.int p0), .val (.int x0), .val (.int x1), .val (.int x2), .val (.int x3), .val (.int (2 : Int32)), .val (.ref b1), .val (.ref b16), .val (.int (1 : Int32)), .val (.int x1)] []) _
    refine own_st (fun t_ k_ => XS.iconst X37.here hx rfl (hb hby at_170) k_) ?_
    show own_Go p e below T37 (mkF m 171 #[.val (.int p0), .val (.int x0), .val (.int x1), .val (.int x2), .val (.int x3), .val (.int (2 : Int32)), .val (.ref b1), .val (.ref b16), .val (.int (1 : Int32)), .val (.int x1)] [(.int (1 : Int32))]) _
    refine own_st (fun t_ k_ => XS.goto X37.here hx rfl (pc0 := 171) (pc' := 175) rfl (hb hby at_171) (by decide) (by decide) k_) ?_
    show own_Go p e below T37 (mkF m 175 #[.val (.int p0), .val (.int x0), .val (.int x1), .val (.int x2), .val (.int x3), .val (.int (2 : Int32)), .val (.ref b1), .val (.ref b16), .val (.int (1 : Int32)), .val (.int x1)] [(.int (1 : Int32))]) _
    obtain ⟨fs, hr, hrun, hended, hW, hsame⟩ := X37.leave (v := some (.int (1 : Int32))) (fun h => by rw [Bd.returns] at h; cases h)
    refine own_fin (retN X37 hx (t := .boolean) Bd.returns (by simp) (hb hby at_175) hr) ⟨hrun, hended, _, _, rfl, ?_, ⟨_, rfl⟩, hW, hsame.mono (by decide) (by decide)⟩
    show Q_rmLaw2 Z p0 x0 x1 x2 x3 h0 n0 _ T37.heap _
    rw [eH37]
    exact ⟨rfl, N37, K23⟩
theorem ef_rmOk_0_3_0 (m : MethodId) (x0 : Addr) (x1 : Int32) (x2 : Int32) (x3 : Int32) (x4 : Int32) : entryFrame m #[(.ref x0), (.int x1), (.int x2), (.int x3), (.int x4)] 5 = mkF m 0 #[.val (.ref x0), .val (.int x1), .val (.int x2), .val (.int x3), .val (.int x4)] [] := by first | (simp [entryFrame, mkF, argsToLocals, Value.category]; done) | rfl
def Q_rmOk_0_3_0 (Z : State) (a1 : Addr) (ki : ClassId) (x0 : Int32) (x1 : Int32) (x2 : Int32) (x3 : Int32) (h0 : Heap) (n0 : Nat) (v : Option Value) (h : Heap) (L : List Loc) : Prop := v = some (.int (1 : Int32)) ∧ Fr n0 L ∧ h = h0
set_option maxRecDepth 65536 in
set_option maxHeartbeats 40000000 in
theorem rmOk_0_3_0 (l : Launch) (Z : State) (a0 : Array Value) (hw : ∀ d ∈ tables_1, d.before a0 Z = true) (ws : List Jvm.Cond) (a1 : Addr) (ki : ClassId) (x0 : Int32) (x1 : Int32) (x2 : Int32) (x3 : Int32) (h0 : Heap) (n0 : Nat) (Z0 : n0 ≤ h0.size) (pV_a1 : Arv Z h0 a1 ki .int (4 : Int32) [(.int x0), (.int x1), (.int x2), (.int x3)] (.int (0 : Int32))) :
    MetFree l (⟨"com/example/spillback/spillback/behaviour/PlanSelectorHighestPinLaw", "ok", "([IIIII)Z"⟩ : MethodName) (head1 (Jvm.Cond.code (⟨"com/example/spillback/spillback/behaviour/PlanSelectorHighestPinLaw", "ok", "([IIIII)Z"⟩ : MethodName) method_3_code 5 (some .boolean) :: ws) ({ frames := 0, cells := 0, slots := 0, locals := 0 } : Room)) (fun a U => a = #[(.ref a1), (.int (0 : Int32)), (.int (3 : Int32)), (.int (0 : Int32)), (.int x0)] ∧ Z.Warmed39 U.vm ∧ U.heap = h0) (fun _ _ _ _ _ => True) (fun _ U o U' => ∃ v L, o = .returned v ∧ Q_rmOk_0_3_0 Z a1 ki x0 x1 x2 x3 h0 n0 v U'.heap L ∧ FrameEnd U o U' L ({ frames := 0, cells := 0, slots := 0, locals := 0 } : Room).cells ({ frames := 0, cells := 0, slots := 0, locals := 0 } : Room).slots) := by
  refine MetFree.of_bodySF (plainFor_of_name pn_2) hisR ?_
  intro p e s m args below meth c s₁ Bd hml0 hP hK
  obtain ⟨rfl, hZ, hh⟩ := hP
  have hx := Bd.exec
  have hby := Bd.bytes
  have hml : c.maxLocals = 5 := hml0
  have hown : s.vm.findClass "com/example/spillback/spillback/behaviour/PlanSelectorHighestPinLaw" = some m.cls := findClass_of_methodNamed Bd.named
  have hnm := (name_of_methodNamed Bd.named Bd.method).1
  have X0 : Stand p l e ({ frames := 0, cells := 0, slots := 0, locals := 0 } : Room) s m #[(.ref a1), (.int (0 : Int32)), (.int (3 : Int32)), (.int (0 : Int32)), (.int x0)] below meth c s₁ [] 0 0 := Stand.of_body Bd
  have e0 : s₁.heap = h0 := by rw [← hh, Bd.state]; rfl
  have N0 := Fr.nil n0
  refine own_enter (ef_rmOk_0_3_0 m a1 ((0 : Int32)) ((3 : Int32)) ((0 : Int32)) x0) ?_
  have hn : ¬ (x0 < x0) := by rw [Int32.lt_iff_toInt_lt]; omega
  refine own_st (fun t_ k_ => XS.iloadN X0.here hx rfl (hb hby d2_0) rfl k_) ?_
  show own_Go p e below s₁ (mkF m 1 #[.val (.ref a1), .val (.int (0 : Int32)), .val (.int (3 : Int32)), .val (.int (0 : Int32)), .val (.int x0)] [(.int (0 : Int32))]) _
  refine own_st (fun t_ k_ => XS.iloadN X0.here hx rfl (hb hby d2_1) rfl k_) ?_
  show own_Go p e below s₁ (mkF m 2 #[.val (.ref a1), .val (.int (0 : Int32)), .val (.int (3 : Int32)), .val (.int (0 : Int32)), .val (.int x0)] [(.int (3 : Int32)), (.int (0 : Int32))]) _
  refine own_st (fun t_ k_ => XS.icmpYes X0.here hx rfl (pc0 := 2) (pc' := 7) rfl (hb hby d2_2) rfl (by decide) (by decide) (by decide) k_) ?_
  show own_Go p e below s₁ (mkF m 7 #[.val (.ref a1), .val (.int (0 : Int32)), .val (.int (3 : Int32)), .val (.int (0 : Int32)), .val (.int x0)] []) _
  refine own_st (fun t_ k_ => XS.aloadN X0.here hx rfl (hb hby d2_7) rfl rfl k_) ?_
  show own_Go p e below s₁ (mkF m 8 #[.val (.ref a1), .val (.int (0 : Int32)), .val (.int (3 : Int32)), .val (.int (0 : Int32)), .val (.int x0)] [(.ref a1)]) _
  refine own_st (fun t_ k_ => XS.iloadN X0.here hx rfl (hb hby d2_8) rfl k_) ?_
  show own_Go p e below s₁ (mkF m 9 #[.val (.ref a1), .val (.int (0 : Int32)), .val (.int (3 : Int32)), .val (.int (0 : Int32)), .val (.int x0)] [(.int (0 : Int32)), (.ref a1)]) _
  obtain ⟨cl1, Ar1, q1, Sz1, Nn1, Hh1, Gg1⟩ := id pV_a1
  have hin1 : ¬ ((0 : Int32) < 0 ∨ cl1.slots.size ≤ ((0 : Int32)).toNatClampNeg) := inb_of Sz1 ⟨by decide, by decide⟩
  have hat1 : cl1.slots[((0 : Int32)).toNatClampNeg]? = some (.int x0) := Has.at Hh1 hin1 rfl
  refine own_st (fun t_ k_ => X0.iaload hx (j := (0 : Int32)) (v := (.int x0)) (by rw [e0]; exact Ar1.1) (State.isArrayOf_alike hZ.alike Ar1.2.1) Ar1.2.2 hin1 hat1 (g := (mkF m 9 #[.val (.ref a1), .val (.int (0 : Int32)), .val (.int (3 : Int32)), .val (.int (0 : Int32)), .val (.int x0)] [(.int (0 : Int32)), (.ref a1)])) rfl rfl (hb hby d2_9) _ k_) ?_
  show own_Go p e below s₁ (mkF m 10 #[.val (.ref a1), .val (.int (0 : Int32)), .val (.int (3 : Int32)), .val (.int (0 : Int32)), .val (.int x0)] [(.int x0)]) _
  refine own_st (fun t_ k_ => XS.iload X0.here hx rfl (hb hby d2_10) rfl k_) ?_
  show own_Go p e below s₁ (mkF m 12 #[.val (.ref a1), .val (.int (0 : Int32)), .val (.int (3 : Int32)), .val (.int (0 : Int32)), .val (.int x0)] [(.int x0), (.int x0)]) _
  refine own_st (fun t_ k_ => XS.icmpYes X0.here hx rfl (pc0 := 12) (pc' := 17) rfl (hb hby d2_12) rfl (flt hn).2.2.2 (by decide) (by decide) k_) ?_
  show own_Go p e below s₁ (mkF m 17 #[.val (.ref a1), .val (.int (0 : Int32)), .val (.int (3 : Int32)), .val (.int (0 : Int32)), .val (.int x0)] []) _
  refine own_st (fun t_ k_ => XS.iloadN X0.here hx rfl (hb hby d2_17) rfl k_) ?_
  show own_Go p e below s₁ (mkF m 18 #[.val (.ref a1), .val (.int (0 : Int32)), .val (.int (3 : Int32)), .val (.int (0 : Int32)), .val (.int x0)] [(.int (0 : Int32))]) _
  refine own_st (fun t_ k_ => XS.iloadN X0.here hx rfl (hb hby d2_18) rfl k_) ?_
  show own_Go p e below s₁ (mkF m 19 #[.val (.ref a1), .val (.int (0 : Int32)), .val (.int (3 : Int32)), .val (.int (0 : Int32)), .val (.int x0)] [(.int (0 : Int32)), (.int (0 : Int32))]) _
  refine own_st (fun t_ k_ => XS.icmpYes X0.here hx rfl (pc0 := 19) (pc' := 32) rfl (hb hby d2_19) rfl (by decide) (by decide) (by decide) k_) ?_
  show own_Go p e below s₁ (mkF m 32 #[.val (.ref a1), .val (.int (0 : Int32)), .val (.int (3 : Int32)), .val (.int (0 : Int32)), .val (.int x0)] []) _
  refine own_st (fun t_ k_ => XS.iconst X0.here hx rfl (hb hby d2_32) k_) ?_
  show own_Go p e below s₁ (mkF m 33 #[.val (.ref a1), .val (.int (0 : Int32)), .val (.int (3 : Int32)), .val (.int (0 : Int32)), .val (.int x0)] [(.int (1 : Int32))]) _
  obtain ⟨fs, hr, hrun, hended, hW, hsame⟩ := X0.leave (v := some (.int (1 : Int32))) (fun h => by rw [Bd.returns] at h; cases h)
  refine own_fin (retN X0 hx (t := .boolean) Bd.returns (by simp) (hb hby d2_33) hr) ⟨hrun, hended, _, _, rfl, ?_, ⟨_, rfl⟩, hW, hsame.mono (by decide) (by decide)⟩
  show Q_rmOk_0_3_0 Z a1 ki x0 x1 x2 x3 h0 n0 _ s₁.heap _
  rw [e0]
  exact ⟨rfl, N0, rfl⟩
theorem ef_rmOk_1_3_0 (m : MethodId) (x0 : Addr) (x1 : Int32) (x2 : Int32) (x3 : Int32) (x4 : Int32) : entryFrame m #[(.ref x0), (.int x1), (.int x2), (.int x3), (.int x4)] 5 = mkF m 0 #[.val (.ref x0), .val (.int x1), .val (.int x2), .val (.int x3), .val (.int x4)] [] := by first | (simp [entryFrame, mkF, argsToLocals, Value.category]; done) | rfl
def Q_rmOk_1_3_0 (Z : State) (a1 : Addr) (ki : ClassId) (x0 : Int32) (x1 : Int32) (x2 : Int32) (x3 : Int32) (h0 : Heap) (n0 : Nat) (v : Option Value) (h : Heap) (L : List Loc) : Prop := v = some (.int (1 : Int32)) ∧ Fr n0 L ∧ h = h0
set_option maxRecDepth 65536 in
set_option maxHeartbeats 40000000 in
theorem rmOk_1_3_0 (l : Launch) (Z : State) (a0 : Array Value) (hw : ∀ d ∈ tables_1, d.before a0 Z = true) (ws : List Jvm.Cond) (a1 : Addr) (ki : ClassId) (x0 : Int32) (x1 : Int32) (x2 : Int32) (x3 : Int32) (h0 : Heap) (n0 : Nat) (Z0 : n0 ≤ h0.size) (pV_a1 : Arv Z h0 a1 ki .int (4 : Int32) [(.int x0), (.int x1), (.int x2), (.int x3)] (.int (0 : Int32))) (hle : (x1.toInt ≤ x0.toInt)) :
    MetFree l (⟨"com/example/spillback/spillback/behaviour/PlanSelectorHighestPinLaw", "ok", "([IIIII)Z"⟩ : MethodName) (head1 (Jvm.Cond.code (⟨"com/example/spillback/spillback/behaviour/PlanSelectorHighestPinLaw", "ok", "([IIIII)Z"⟩ : MethodName) method_3_code 5 (some .boolean) :: ws) ({ frames := 0, cells := 0, slots := 0, locals := 0 } : Room)) (fun a U => a = #[(.ref a1), (.int (1 : Int32)), (.int (3 : Int32)), (.int (0 : Int32)), (.int x0)] ∧ Z.Warmed39 U.vm ∧ U.heap = h0) (fun _ _ _ _ _ => True) (fun _ U o U' => ∃ v L, o = .returned v ∧ Q_rmOk_1_3_0 Z a1 ki x0 x1 x2 x3 h0 n0 v U'.heap L ∧ FrameEnd U o U' L ({ frames := 0, cells := 0, slots := 0, locals := 0 } : Room).cells ({ frames := 0, cells := 0, slots := 0, locals := 0 } : Room).slots) := by
  refine MetFree.of_bodySF (plainFor_of_name pn_2) hisR ?_
  intro p e s m args below meth c s₁ Bd hml0 hP hK
  obtain ⟨rfl, hZ, hh⟩ := hP
  have hx := Bd.exec
  have hby := Bd.bytes
  have hml : c.maxLocals = 5 := hml0
  have hown : s.vm.findClass "com/example/spillback/spillback/behaviour/PlanSelectorHighestPinLaw" = some m.cls := findClass_of_methodNamed Bd.named
  have hnm := (name_of_methodNamed Bd.named Bd.method).1
  have X0 : Stand p l e ({ frames := 0, cells := 0, slots := 0, locals := 0 } : Room) s m #[(.ref a1), (.int (1 : Int32)), (.int (3 : Int32)), (.int (0 : Int32)), (.int x0)] below meth c s₁ [] 0 0 := Stand.of_body Bd
  have e0 : s₁.heap = h0 := by rw [← hh, Bd.state]; rfl
  have N0 := Fr.nil n0
  refine own_enter (ef_rmOk_1_3_0 m a1 ((1 : Int32)) ((3 : Int32)) ((0 : Int32)) x0) ?_
  have hn : ¬ (x0 < x1) := by rw [Int32.lt_iff_toInt_lt]; omega
  refine own_st (fun t_ k_ => XS.iloadN X0.here hx rfl (hb hby d2_0) rfl k_) ?_
  show own_Go p e below s₁ (mkF m 1 #[.val (.ref a1), .val (.int (1 : Int32)), .val (.int (3 : Int32)), .val (.int (0 : Int32)), .val (.int x0)] [(.int (1 : Int32))]) _
  refine own_st (fun t_ k_ => XS.iloadN X0.here hx rfl (hb hby d2_1) rfl k_) ?_
  show own_Go p e below s₁ (mkF m 2 #[.val (.ref a1), .val (.int (1 : Int32)), .val (.int (3 : Int32)), .val (.int (0 : Int32)), .val (.int x0)] [(.int (3 : Int32)), (.int (1 : Int32))]) _
  refine own_st (fun t_ k_ => XS.icmpYes X0.here hx rfl (pc0 := 2) (pc' := 7) rfl (hb hby d2_2) rfl (by decide) (by decide) (by decide) k_) ?_
  show own_Go p e below s₁ (mkF m 7 #[.val (.ref a1), .val (.int (1 : Int32)), .val (.int (3 : Int32)), .val (.int (0 : Int32)), .val (.int x0)] []) _
  refine own_st (fun t_ k_ => XS.aloadN X0.here hx rfl (hb hby d2_7) rfl rfl k_) ?_
  show own_Go p e below s₁ (mkF m 8 #[.val (.ref a1), .val (.int (1 : Int32)), .val (.int (3 : Int32)), .val (.int (0 : Int32)), .val (.int x0)] [(.ref a1)]) _
  refine own_st (fun t_ k_ => XS.iloadN X0.here hx rfl (hb hby d2_8) rfl k_) ?_
  show own_Go p e below s₁ (mkF m 9 #[.val (.ref a1), .val (.int (1 : Int32)), .val (.int (3 : Int32)), .val (.int (0 : Int32)), .val (.int x0)] [(.int (1 : Int32)), (.ref a1)]) _
  obtain ⟨cl1, Ar1, q1, Sz1, Nn1, Hh1, Gg1⟩ := id pV_a1
  have hin1 : ¬ ((1 : Int32) < 0 ∨ cl1.slots.size ≤ ((1 : Int32)).toNatClampNeg) := inb_of Sz1 ⟨by decide, by decide⟩
  have hat1 : cl1.slots[((1 : Int32)).toNatClampNeg]? = some (.int x1) := Has.at Hh1 hin1 rfl
  refine own_st (fun t_ k_ => X0.iaload hx (j := (1 : Int32)) (v := (.int x1)) (by rw [e0]; exact Ar1.1) (State.isArrayOf_alike hZ.alike Ar1.2.1) Ar1.2.2 hin1 hat1 (g := (mkF m 9 #[.val (.ref a1), .val (.int (1 : Int32)), .val (.int (3 : Int32)), .val (.int (0 : Int32)), .val (.int x0)] [(.int (1 : Int32)), (.ref a1)])) rfl rfl (hb hby d2_9) _ k_) ?_
  show own_Go p e below s₁ (mkF m 10 #[.val (.ref a1), .val (.int (1 : Int32)), .val (.int (3 : Int32)), .val (.int (0 : Int32)), .val (.int x0)] [(.int x1)]) _
  refine own_st (fun t_ k_ => XS.iload X0.here hx rfl (hb hby d2_10) rfl k_) ?_
  show own_Go p e below s₁ (mkF m 12 #[.val (.ref a1), .val (.int (1 : Int32)), .val (.int (3 : Int32)), .val (.int (0 : Int32)), .val (.int x0)] [(.int x0), (.int x1)]) _
  refine own_st (fun t_ k_ => XS.icmpYes X0.here hx rfl (pc0 := 12) (pc' := 17) rfl (hb hby d2_12) rfl (flt hn).2.2.2 (by decide) (by decide) k_) ?_
  show own_Go p e below s₁ (mkF m 17 #[.val (.ref a1), .val (.int (1 : Int32)), .val (.int (3 : Int32)), .val (.int (0 : Int32)), .val (.int x0)] []) _
  refine own_st (fun t_ k_ => XS.iloadN X0.here hx rfl (hb hby d2_17) rfl k_) ?_
  show own_Go p e below s₁ (mkF m 18 #[.val (.ref a1), .val (.int (1 : Int32)), .val (.int (3 : Int32)), .val (.int (0 : Int32)), .val (.int x0)] [(.int (1 : Int32))]) _
  refine own_st (fun t_ k_ => XS.iloadN X0.here hx rfl (hb hby d2_18) rfl k_) ?_
  show own_Go p e below s₁ (mkF m 19 #[.val (.ref a1), .val (.int (1 : Int32)), .val (.int (3 : Int32)), .val (.int (0 : Int32)), .val (.int x0)] [(.int (0 : Int32)), (.int (1 : Int32))]) _
  refine own_st (fun t_ k_ => XS.icmpYes X0.here hx rfl (pc0 := 19) (pc' := 32) rfl (hb hby d2_19) rfl (by decide) (by decide) (by decide) k_) ?_
  show own_Go p e below s₁ (mkF m 32 #[.val (.ref a1), .val (.int (1 : Int32)), .val (.int (3 : Int32)), .val (.int (0 : Int32)), .val (.int x0)] []) _
  refine own_st (fun t_ k_ => XS.iconst X0.here hx rfl (hb hby d2_32) k_) ?_
  show own_Go p e below s₁ (mkF m 33 #[.val (.ref a1), .val (.int (1 : Int32)), .val (.int (3 : Int32)), .val (.int (0 : Int32)), .val (.int x0)] [(.int (1 : Int32))]) _
  obtain ⟨fs, hr, hrun, hended, hW, hsame⟩ := X0.leave (v := some (.int (1 : Int32))) (fun h => by rw [Bd.returns] at h; cases h)
  refine own_fin (retN X0 hx (t := .boolean) Bd.returns (by simp) (hb hby d2_33) hr) ⟨hrun, hended, _, _, rfl, ?_, ⟨_, rfl⟩, hW, hsame.mono (by decide) (by decide)⟩
  show Q_rmOk_1_3_0 Z a1 ki x0 x1 x2 x3 h0 n0 _ s₁.heap _
  rw [e0]
  exact ⟨rfl, N0, rfl⟩
theorem ef_rmOk_2_3_0 (m : MethodId) (x0 : Addr) (x1 : Int32) (x2 : Int32) (x3 : Int32) (x4 : Int32) : entryFrame m #[(.ref x0), (.int x1), (.int x2), (.int x3), (.int x4)] 5 = mkF m 0 #[.val (.ref x0), .val (.int x1), .val (.int x2), .val (.int x3), .val (.int x4)] [] := by first | (simp [entryFrame, mkF, argsToLocals, Value.category]; done) | rfl
def Q_rmOk_2_3_0 (Z : State) (a1 : Addr) (ki : ClassId) (x0 : Int32) (x1 : Int32) (x2 : Int32) (x3 : Int32) (h0 : Heap) (n0 : Nat) (v : Option Value) (h : Heap) (L : List Loc) : Prop := v = some (.int (1 : Int32)) ∧ Fr n0 L ∧ h = h0
set_option maxRecDepth 65536 in
set_option maxHeartbeats 40000000 in
theorem rmOk_2_3_0 (l : Launch) (Z : State) (a0 : Array Value) (hw : ∀ d ∈ tables_1, d.before a0 Z = true) (ws : List Jvm.Cond) (a1 : Addr) (ki : ClassId) (x0 : Int32) (x1 : Int32) (x2 : Int32) (x3 : Int32) (h0 : Heap) (n0 : Nat) (Z0 : n0 ≤ h0.size) (pV_a1 : Arv Z h0 a1 ki .int (4 : Int32) [(.int x0), (.int x1), (.int x2), (.int x3)] (.int (0 : Int32))) (hle : (x2.toInt ≤ x0.toInt)) :
    MetFree l (⟨"com/example/spillback/spillback/behaviour/PlanSelectorHighestPinLaw", "ok", "([IIIII)Z"⟩ : MethodName) (head1 (Jvm.Cond.code (⟨"com/example/spillback/spillback/behaviour/PlanSelectorHighestPinLaw", "ok", "([IIIII)Z"⟩ : MethodName) method_3_code 5 (some .boolean) :: ws) ({ frames := 0, cells := 0, slots := 0, locals := 0 } : Room)) (fun a U => a = #[(.ref a1), (.int (2 : Int32)), (.int (3 : Int32)), (.int (0 : Int32)), (.int x0)] ∧ Z.Warmed39 U.vm ∧ U.heap = h0) (fun _ _ _ _ _ => True) (fun _ U o U' => ∃ v L, o = .returned v ∧ Q_rmOk_2_3_0 Z a1 ki x0 x1 x2 x3 h0 n0 v U'.heap L ∧ FrameEnd U o U' L ({ frames := 0, cells := 0, slots := 0, locals := 0 } : Room).cells ({ frames := 0, cells := 0, slots := 0, locals := 0 } : Room).slots) := by
  refine MetFree.of_bodySF (plainFor_of_name pn_2) hisR ?_
  intro p e s m args below meth c s₁ Bd hml0 hP hK
  obtain ⟨rfl, hZ, hh⟩ := hP
  have hx := Bd.exec
  have hby := Bd.bytes
  have hml : c.maxLocals = 5 := hml0
  have hown : s.vm.findClass "com/example/spillback/spillback/behaviour/PlanSelectorHighestPinLaw" = some m.cls := findClass_of_methodNamed Bd.named
  have hnm := (name_of_methodNamed Bd.named Bd.method).1
  have X0 : Stand p l e ({ frames := 0, cells := 0, slots := 0, locals := 0 } : Room) s m #[(.ref a1), (.int (2 : Int32)), (.int (3 : Int32)), (.int (0 : Int32)), (.int x0)] below meth c s₁ [] 0 0 := Stand.of_body Bd
  have e0 : s₁.heap = h0 := by rw [← hh, Bd.state]; rfl
  have N0 := Fr.nil n0
  refine own_enter (ef_rmOk_2_3_0 m a1 ((2 : Int32)) ((3 : Int32)) ((0 : Int32)) x0) ?_
  have hn : ¬ (x0 < x2) := by rw [Int32.lt_iff_toInt_lt]; omega
  refine own_st (fun t_ k_ => XS.iloadN X0.here hx rfl (hb hby d2_0) rfl k_) ?_
  show own_Go p e below s₁ (mkF m 1 #[.val (.ref a1), .val (.int (2 : Int32)), .val (.int (3 : Int32)), .val (.int (0 : Int32)), .val (.int x0)] [(.int (2 : Int32))]) _
  refine own_st (fun t_ k_ => XS.iloadN X0.here hx rfl (hb hby d2_1) rfl k_) ?_
  show own_Go p e below s₁ (mkF m 2 #[.val (.ref a1), .val (.int (2 : Int32)), .val (.int (3 : Int32)), .val (.int (0 : Int32)), .val (.int x0)] [(.int (3 : Int32)), (.int (2 : Int32))]) _
  refine own_st (fun t_ k_ => XS.icmpYes X0.here hx rfl (pc0 := 2) (pc' := 7) rfl (hb hby d2_2) rfl (by decide) (by decide) (by decide) k_) ?_
  show own_Go p e below s₁ (mkF m 7 #[.val (.ref a1), .val (.int (2 : Int32)), .val (.int (3 : Int32)), .val (.int (0 : Int32)), .val (.int x0)] []) _
  refine own_st (fun t_ k_ => XS.aloadN X0.here hx rfl (hb hby d2_7) rfl rfl k_) ?_
  show own_Go p e below s₁ (mkF m 8 #[.val (.ref a1), .val (.int (2 : Int32)), .val (.int (3 : Int32)), .val (.int (0 : Int32)), .val (.int x0)] [(.ref a1)]) _
  refine own_st (fun t_ k_ => XS.iloadN X0.here hx rfl (hb hby d2_8) rfl k_) ?_
  show own_Go p e below s₁ (mkF m 9 #[.val (.ref a1), .val (.int (2 : Int32)), .val (.int (3 : Int32)), .val (.int (0 : Int32)), .val (.int x0)] [(.int (2 : Int32)), (.ref a1)]) _
  obtain ⟨cl1, Ar1, q1, Sz1, Nn1, Hh1, Gg1⟩ := id pV_a1
  have hin1 : ¬ ((2 : Int32) < 0 ∨ cl1.slots.size ≤ ((2 : Int32)).toNatClampNeg) := inb_of Sz1 ⟨by decide, by decide⟩
  have hat1 : cl1.slots[((2 : Int32)).toNatClampNeg]? = some (.int x2) := Has.at Hh1 hin1 rfl
  refine own_st (fun t_ k_ => X0.iaload hx (j := (2 : Int32)) (v := (.int x2)) (by rw [e0]; exact Ar1.1) (State.isArrayOf_alike hZ.alike Ar1.2.1) Ar1.2.2 hin1 hat1 (g := (mkF m 9 #[.val (.ref a1), .val (.int (2 : Int32)), .val (.int (3 : Int32)), .val (.int (0 : Int32)), .val (.int x0)] [(.int (2 : Int32)), (.ref a1)])) rfl rfl (hb hby d2_9) _ k_) ?_
  show own_Go p e below s₁ (mkF m 10 #[.val (.ref a1), .val (.int (2 : Int32)), .val (.int (3 : Int32)), .val (.int (0 : Int32)), .val (.int x0)] [(.int x2)]) _
  refine own_st (fun t_ k_ => XS.iload X0.here hx rfl (hb hby d2_10) rfl k_) ?_
  show own_Go p e below s₁ (mkF m 12 #[.val (.ref a1), .val (.int (2 : Int32)), .val (.int (3 : Int32)), .val (.int (0 : Int32)), .val (.int x0)] [(.int x0), (.int x2)]) _
  refine own_st (fun t_ k_ => XS.icmpYes X0.here hx rfl (pc0 := 12) (pc' := 17) rfl (hb hby d2_12) rfl (flt hn).2.2.2 (by decide) (by decide) k_) ?_
  show own_Go p e below s₁ (mkF m 17 #[.val (.ref a1), .val (.int (2 : Int32)), .val (.int (3 : Int32)), .val (.int (0 : Int32)), .val (.int x0)] []) _
  refine own_st (fun t_ k_ => XS.iloadN X0.here hx rfl (hb hby d2_17) rfl k_) ?_
  show own_Go p e below s₁ (mkF m 18 #[.val (.ref a1), .val (.int (2 : Int32)), .val (.int (3 : Int32)), .val (.int (0 : Int32)), .val (.int x0)] [(.int (2 : Int32))]) _
  refine own_st (fun t_ k_ => XS.iloadN X0.here hx rfl (hb hby d2_18) rfl k_) ?_
  show own_Go p e below s₁ (mkF m 19 #[.val (.ref a1), .val (.int (2 : Int32)), .val (.int (3 : Int32)), .val (.int (0 : Int32)), .val (.int x0)] [(.int (0 : Int32)), (.int (2 : Int32))]) _
  refine own_st (fun t_ k_ => XS.icmpYes X0.here hx rfl (pc0 := 19) (pc' := 32) rfl (hb hby d2_19) rfl (by decide) (by decide) (by decide) k_) ?_
  show own_Go p e below s₁ (mkF m 32 #[.val (.ref a1), .val (.int (2 : Int32)), .val (.int (3 : Int32)), .val (.int (0 : Int32)), .val (.int x0)] []) _
  refine own_st (fun t_ k_ => XS.iconst X0.here hx rfl (hb hby d2_32) k_) ?_
  show own_Go p e below s₁ (mkF m 33 #[.val (.ref a1), .val (.int (2 : Int32)), .val (.int (3 : Int32)), .val (.int (0 : Int32)), .val (.int x0)] [(.int (1 : Int32))]) _
  obtain ⟨fs, hr, hrun, hended, hW, hsame⟩ := X0.leave (v := some (.int (1 : Int32))) (fun h => by rw [Bd.returns] at h; cases h)
  refine own_fin (retN X0 hx (t := .boolean) Bd.returns (by simp) (hb hby d2_33) hr) ⟨hrun, hended, _, _, rfl, ?_, ⟨_, rfl⟩, hW, hsame.mono (by decide) (by decide)⟩
  show Q_rmOk_2_3_0 Z a1 ki x0 x1 x2 x3 h0 n0 _ s₁.heap _
  rw [e0]
  exact ⟨rfl, N0, rfl⟩
theorem ef_rmOk_3_3_0 (m : MethodId) (x0 : Addr) (x1 : Int32) (x2 : Int32) (x3 : Int32) (x4 : Int32) : entryFrame m #[(.ref x0), (.int x1), (.int x2), (.int x3), (.int x4)] 5 = mkF m 0 #[.val (.ref x0), .val (.int x1), .val (.int x2), .val (.int x3), .val (.int x4)] [] := by first | (simp [entryFrame, mkF, argsToLocals, Value.category]; done) | rfl
def Q_rmOk_3_3_0 (Z : State) (a1 : Addr) (ki : ClassId) (x0 : Int32) (x1 : Int32) (x2 : Int32) (x3 : Int32) (h0 : Heap) (n0 : Nat) (v : Option Value) (h : Heap) (L : List Loc) : Prop := v = some (.int (1 : Int32)) ∧ Fr n0 L ∧ h = h0
set_option maxRecDepth 65536 in
set_option maxHeartbeats 40000000 in
theorem rmOk_3_3_0 (l : Launch) (Z : State) (a0 : Array Value) (hw : ∀ d ∈ tables_1, d.before a0 Z = true) (ws : List Jvm.Cond) (a1 : Addr) (ki : ClassId) (x0 : Int32) (x1 : Int32) (x2 : Int32) (x3 : Int32) (h0 : Heap) (n0 : Nat) (Z0 : n0 ≤ h0.size) (pV_a1 : Arv Z h0 a1 ki .int (4 : Int32) [(.int x0), (.int x1), (.int x2), (.int x3)] (.int (0 : Int32))) :
    MetFree l (⟨"com/example/spillback/spillback/behaviour/PlanSelectorHighestPinLaw", "ok", "([IIIII)Z"⟩ : MethodName) (head1 (Jvm.Cond.code (⟨"com/example/spillback/spillback/behaviour/PlanSelectorHighestPinLaw", "ok", "([IIIII)Z"⟩ : MethodName) method_3_code 5 (some .boolean) :: ws) ({ frames := 0, cells := 0, slots := 0, locals := 0 } : Room)) (fun a U => a = #[(.ref a1), (.int (3 : Int32)), (.int (3 : Int32)), (.int (0 : Int32)), (.int x0)] ∧ Z.Warmed39 U.vm ∧ U.heap = h0) (fun _ _ _ _ _ => True) (fun _ U o U' => ∃ v L, o = .returned v ∧ Q_rmOk_3_3_0 Z a1 ki x0 x1 x2 x3 h0 n0 v U'.heap L ∧ FrameEnd U o U' L ({ frames := 0, cells := 0, slots := 0, locals := 0 } : Room).cells ({ frames := 0, cells := 0, slots := 0, locals := 0 } : Room).slots) := by
  refine MetFree.of_bodySF (plainFor_of_name pn_2) hisR ?_
  intro p e s m args below meth c s₁ Bd hml0 hP hK
  obtain ⟨rfl, hZ, hh⟩ := hP
  have hx := Bd.exec
  have hby := Bd.bytes
  have hml : c.maxLocals = 5 := hml0
  have hown : s.vm.findClass "com/example/spillback/spillback/behaviour/PlanSelectorHighestPinLaw" = some m.cls := findClass_of_methodNamed Bd.named
  have hnm := (name_of_methodNamed Bd.named Bd.method).1
  have X0 : Stand p l e ({ frames := 0, cells := 0, slots := 0, locals := 0 } : Room) s m #[(.ref a1), (.int (3 : Int32)), (.int (3 : Int32)), (.int (0 : Int32)), (.int x0)] below meth c s₁ [] 0 0 := Stand.of_body Bd
  have e0 : s₁.heap = h0 := by rw [← hh, Bd.state]; rfl
  have N0 := Fr.nil n0
  refine own_enter (ef_rmOk_3_3_0 m a1 ((3 : Int32)) ((3 : Int32)) ((0 : Int32)) x0) ?_
  skip
  refine own_st (fun t_ k_ => XS.iloadN X0.here hx rfl (hb hby d2_0) rfl k_) ?_
  show own_Go p e below s₁ (mkF m 1 #[.val (.ref a1), .val (.int (3 : Int32)), .val (.int (3 : Int32)), .val (.int (0 : Int32)), .val (.int x0)] [(.int (3 : Int32))]) _
  refine own_st (fun t_ k_ => XS.iloadN X0.here hx rfl (hb hby d2_1) rfl k_) ?_
  show own_Go p e below s₁ (mkF m 2 #[.val (.ref a1), .val (.int (3 : Int32)), .val (.int (3 : Int32)), .val (.int (0 : Int32)), .val (.int x0)] [(.int (3 : Int32)), (.int (3 : Int32))]) _
  refine own_st (fun t_ k_ => XS.icmpNo X0.here hx rfl (hb hby d2_2) rfl (by decide) k_) ?_
  show own_Go p e below s₁ (mkF m 5 #[.val (.ref a1), .val (.int (3 : Int32)), .val (.int (3 : Int32)), .val (.int (0 : Int32)), .val (.int x0)] []) _
  refine own_st (fun t_ k_ => XS.iconst X0.here hx rfl (hb hby d2_5) k_) ?_
  show own_Go p e below s₁ (mkF m 6 #[.val (.ref a1), .val (.int (3 : Int32)), .val (.int (3 : Int32)), .val (.int (0 : Int32)), .val (.int x0)] [(.int (1 : Int32))]) _
  obtain ⟨fs, hr, hrun, hended, hW, hsame⟩ := X0.leave (v := some (.int (1 : Int32))) (fun h => by rw [Bd.returns] at h; cases h)
  refine own_fin (retN X0 hx (t := .boolean) Bd.returns (by simp) (hb hby d2_6) hr) ⟨hrun, hended, _, _, rfl, ?_, ⟨_, rfl⟩, hW, hsame.mono (by decide) (by decide)⟩
  show Q_rmOk_3_3_0 Z a1 ki x0 x1 x2 x3 h0 n0 _ s₁.heap _
  rw [e0]
  exact ⟨rfl, N0, rfl⟩
theorem ef_rmOk_0_3_1 (m : MethodId) (x0 : Addr) (x1 : Int32) (x2 : Int32) (x3 : Int32) (x4 : Int32) : entryFrame m #[(.ref x0), (.int x1), (.int x2), (.int x3), (.int x4)] 5 = mkF m 0 #[.val (.ref x0), .val (.int x1), .val (.int x2), .val (.int x3), .val (.int x4)] [] := by first | (simp [entryFrame, mkF, argsToLocals, Value.category]; done) | rfl
def Q_rmOk_0_3_1 (Z : State) (a1 : Addr) (ki : ClassId) (x0 : Int32) (x1 : Int32) (x2 : Int32) (x3 : Int32) (h0 : Heap) (n0 : Nat) (v : Option Value) (h : Heap) (L : List Loc) : Prop := v = some (.int (1 : Int32)) ∧ Fr n0 L ∧ h = h0
set_option maxRecDepth 65536 in
set_option maxHeartbeats 40000000 in
theorem rmOk_0_3_1 (l : Launch) (Z : State) (a0 : Array Value) (hw : ∀ d ∈ tables_1, d.before a0 Z = true) (ws : List Jvm.Cond) (a1 : Addr) (ki : ClassId) (x0 : Int32) (x1 : Int32) (x2 : Int32) (x3 : Int32) (h0 : Heap) (n0 : Nat) (Z0 : n0 ≤ h0.size) (pV_a1 : Arv Z h0 a1 ki .int (4 : Int32) [(.int x0), (.int x1), (.int x2), (.int x3)] (.int (0 : Int32))) (hle : (x0.toInt < x1.toInt)) :
    MetFree l (⟨"com/example/spillback/spillback/behaviour/PlanSelectorHighestPinLaw", "ok", "([IIIII)Z"⟩ : MethodName) (head1 (Jvm.Cond.code (⟨"com/example/spillback/spillback/behaviour/PlanSelectorHighestPinLaw", "ok", "([IIIII)Z"⟩ : MethodName) method_3_code 5 (some .boolean) :: ws) ({ frames := 0, cells := 0, slots := 0, locals := 0 } : Room)) (fun a U => a = #[(.ref a1), (.int (0 : Int32)), (.int (3 : Int32)), (.int (1 : Int32)), (.int x1)] ∧ Z.Warmed39 U.vm ∧ U.heap = h0) (fun _ _ _ _ _ => True) (fun _ U o U' => ∃ v L, o = .returned v ∧ Q_rmOk_0_3_1 Z a1 ki x0 x1 x2 x3 h0 n0 v U'.heap L ∧ FrameEnd U o U' L ({ frames := 0, cells := 0, slots := 0, locals := 0 } : Room).cells ({ frames := 0, cells := 0, slots := 0, locals := 0 } : Room).slots) := by
  refine MetFree.of_bodySF (plainFor_of_name pn_2) hisR ?_
  intro p e s m args below meth c s₁ Bd hml0 hP hK
  obtain ⟨rfl, hZ, hh⟩ := hP
  have hx := Bd.exec
  have hby := Bd.bytes
  have hml : c.maxLocals = 5 := hml0
  have hown : s.vm.findClass "com/example/spillback/spillback/behaviour/PlanSelectorHighestPinLaw" = some m.cls := findClass_of_methodNamed Bd.named
  have hnm := (name_of_methodNamed Bd.named Bd.method).1
  have X0 : Stand p l e ({ frames := 0, cells := 0, slots := 0, locals := 0 } : Room) s m #[(.ref a1), (.int (0 : Int32)), (.int (3 : Int32)), (.int (1 : Int32)), (.int x1)] below meth c s₁ [] 0 0 := Stand.of_body Bd
  have e0 : s₁.heap = h0 := by rw [← hh, Bd.state]; rfl
  have N0 := Fr.nil n0
  refine own_enter (ef_rmOk_0_3_1 m a1 ((0 : Int32)) ((3 : Int32)) ((1 : Int32)) x1) ?_
  have hn : ¬ (x1 < x0) := by rw [Int32.lt_iff_toInt_lt]; omega
  have hd : ¬ (x0 = x1) := fun q => by subst q; omega
  refine own_st (fun t_ k_ => XS.iloadN X0.here hx rfl (hb hby d2_0) rfl k_) ?_
  show own_Go p e below s₁ (mkF m 1 #[.val (.ref a1), .val (.int (0 : Int32)), .val (.int (3 : Int32)), .val (.int (1 : Int32)), .val (.int x1)] [(.int (0 : Int32))]) _
  refine own_st (fun t_ k_ => XS.iloadN X0.here hx rfl (hb hby d2_1) rfl k_) ?_
  show own_Go p e below s₁ (mkF m 2 #[.val (.ref a1), .val (.int (0 : Int32)), .val (.int (3 : Int32)), .val (.int (1 : Int32)), .val (.int x1)] [(.int (3 : Int32)), (.int (0 : Int32))]) _
  refine own_st (fun t_ k_ => XS.icmpYes X0.here hx rfl (pc0 := 2) (pc' := 7) rfl (hb hby d2_2) rfl (by decide) (by decide) (by decide) k_) ?_
  show own_Go p e below s₁ (mkF m 7 #[.val (.ref a1), .val (.int (0 : Int32)), .val (.int (3 : Int32)), .val (.int (1 : Int32)), .val (.int x1)] []) _
  refine own_st (fun t_ k_ => XS.aloadN X0.here hx rfl (hb hby d2_7) rfl rfl k_) ?_
  show own_Go p e below s₁ (mkF m 8 #[.val (.ref a1), .val (.int (0 : Int32)), .val (.int (3 : Int32)), .val (.int (1 : Int32)), .val (.int x1)] [(.ref a1)]) _
  refine own_st (fun t_ k_ => XS.iloadN X0.here hx rfl (hb hby d2_8) rfl k_) ?_
  show own_Go p e below s₁ (mkF m 9 #[.val (.ref a1), .val (.int (0 : Int32)), .val (.int (3 : Int32)), .val (.int (1 : Int32)), .val (.int x1)] [(.int (0 : Int32)), (.ref a1)]) _
  obtain ⟨cl1, Ar1, q1, Sz1, Nn1, Hh1, Gg1⟩ := id pV_a1
  have hin1 : ¬ ((0 : Int32) < 0 ∨ cl1.slots.size ≤ ((0 : Int32)).toNatClampNeg) := inb_of Sz1 ⟨by decide, by decide⟩
  have hat1 : cl1.slots[((0 : Int32)).toNatClampNeg]? = some (.int x0) := Has.at Hh1 hin1 rfl
  refine own_st (fun t_ k_ => X0.iaload hx (j := (0 : Int32)) (v := (.int x0)) (by rw [e0]; exact Ar1.1) (State.isArrayOf_alike hZ.alike Ar1.2.1) Ar1.2.2 hin1 hat1 (g := (mkF m 9 #[.val (.ref a1), .val (.int (0 : Int32)), .val (.int (3 : Int32)), .val (.int (1 : Int32)), .val (.int x1)] [(.int (0 : Int32)), (.ref a1)])) rfl rfl (hb hby d2_9) _ k_) ?_
  show own_Go p e below s₁ (mkF m 10 #[.val (.ref a1), .val (.int (0 : Int32)), .val (.int (3 : Int32)), .val (.int (1 : Int32)), .val (.int x1)] [(.int x0)]) _
  refine own_st (fun t_ k_ => XS.iload X0.here hx rfl (hb hby d2_10) rfl k_) ?_
  show own_Go p e below s₁ (mkF m 12 #[.val (.ref a1), .val (.int (0 : Int32)), .val (.int (3 : Int32)), .val (.int (1 : Int32)), .val (.int x1)] [(.int x1), (.int x0)]) _
  refine own_st (fun t_ k_ => XS.icmpYes X0.here hx rfl (pc0 := 12) (pc' := 17) rfl (hb hby d2_12) rfl (flt hn).2.2.2 (by decide) (by decide) k_) ?_
  show own_Go p e below s₁ (mkF m 17 #[.val (.ref a1), .val (.int (0 : Int32)), .val (.int (3 : Int32)), .val (.int (1 : Int32)), .val (.int x1)] []) _
  refine own_st (fun t_ k_ => XS.iloadN X0.here hx rfl (hb hby d2_17) rfl k_) ?_
  show own_Go p e below s₁ (mkF m 18 #[.val (.ref a1), .val (.int (0 : Int32)), .val (.int (3 : Int32)), .val (.int (1 : Int32)), .val (.int x1)] [(.int (0 : Int32))]) _
  refine own_st (fun t_ k_ => XS.iloadN X0.here hx rfl (hb hby d2_18) rfl k_) ?_
  show own_Go p e below s₁ (mkF m 19 #[.val (.ref a1), .val (.int (0 : Int32)), .val (.int (3 : Int32)), .val (.int (1 : Int32)), .val (.int x1)] [(.int (1 : Int32)), (.int (0 : Int32))]) _
  refine own_st (fun t_ k_ => XS.icmpNo X0.here hx rfl (hb hby d2_19) rfl (by decide) k_) ?_
  show own_Go p e below s₁ (mkF m 22 #[.val (.ref a1), .val (.int (0 : Int32)), .val (.int (3 : Int32)), .val (.int (1 : Int32)), .val (.int x1)] []) _
  refine own_st (fun t_ k_ => XS.aloadN X0.here hx rfl (hb hby d2_22) rfl rfl k_) ?_
  show own_Go p e below s₁ (mkF m 23 #[.val (.ref a1), .val (.int (0 : Int32)), .val (.int (3 : Int32)), .val (.int (1 : Int32)), .val (.int x1)] [(.ref a1)]) _
  refine own_st (fun t_ k_ => XS.iloadN X0.here hx rfl (hb hby d2_23) rfl k_) ?_
  show own_Go p e below s₁ (mkF m 24 #[.val (.ref a1), .val (.int (0 : Int32)), .val (.int (3 : Int32)), .val (.int (1 : Int32)), .val (.int x1)] [(.int (0 : Int32)), (.ref a1)]) _
  obtain ⟨cl2, Ar2, q2, Sz2, Nn2, Hh2, Gg2⟩ := id pV_a1
  have hin2 : ¬ ((0 : Int32) < 0 ∨ cl2.slots.size ≤ ((0 : Int32)).toNatClampNeg) := inb_of Sz2 ⟨by decide, by decide⟩
  have hat2 : cl2.slots[((0 : Int32)).toNatClampNeg]? = some (.int x0) := Has.at Hh2 hin2 rfl
  refine own_st (fun t_ k_ => X0.iaload hx (j := (0 : Int32)) (v := (.int x0)) (by rw [e0]; exact Ar2.1) (State.isArrayOf_alike hZ.alike Ar2.2.1) Ar2.2.2 hin2 hat2 (g := (mkF m 24 #[.val (.ref a1), .val (.int (0 : Int32)), .val (.int (3 : Int32)), .val (.int (1 : Int32)), .val (.int x1)] [(.int (0 : Int32)), (.ref a1)])) rfl rfl (hb hby d2_24) _ k_) ?_
  show own_Go p e below s₁ (mkF m 25 #[.val (.ref a1), .val (.int (0 : Int32)), .val (.int (3 : Int32)), .val (.int (1 : Int32)), .val (.int x1)] [(.int x0)]) _
  refine own_st (fun t_ k_ => XS.iload X0.here hx rfl (hb hby d2_25) rfl k_) ?_
  show own_Go p e below s₁ (mkF m 27 #[.val (.ref a1), .val (.int (0 : Int32)), .val (.int (3 : Int32)), .val (.int (1 : Int32)), .val (.int x1)] [(.int x1), (.int x0)]) _
  refine own_st (fun t_ k_ => XS.icmpYes X0.here hx rfl (pc0 := 27) (pc' := 32) rfl (hb hby d2_27) rfl (feq hd).2 (by decide) (by decide) k_) ?_
  show own_Go p e below s₁ (mkF m 32 #[.val (.ref a1), .val (.int (0 : Int32)), .val (.int (3 : Int32)), .val (.int (1 : Int32)), .val (.int x1)] []) _
  refine own_st (fun t_ k_ => XS.iconst X0.here hx rfl (hb hby d2_32) k_) ?_
  show own_Go p e below s₁ (mkF m 33 #[.val (.ref a1), .val (.int (0 : Int32)), .val (.int (3 : Int32)), .val (.int (1 : Int32)), .val (.int x1)] [(.int (1 : Int32))]) _
  obtain ⟨fs, hr, hrun, hended, hW, hsame⟩ := X0.leave (v := some (.int (1 : Int32))) (fun h => by rw [Bd.returns] at h; cases h)
  refine own_fin (retN X0 hx (t := .boolean) Bd.returns (by simp) (hb hby d2_33) hr) ⟨hrun, hended, _, _, rfl, ?_, ⟨_, rfl⟩, hW, hsame.mono (by decide) (by decide)⟩
  show Q_rmOk_0_3_1 Z a1 ki x0 x1 x2 x3 h0 n0 _ s₁.heap _
  rw [e0]
  exact ⟨rfl, N0, rfl⟩
theorem ef_rmOk_1_3_1 (m : MethodId) (x0 : Addr) (x1 : Int32) (x2 : Int32) (x3 : Int32) (x4 : Int32) : entryFrame m #[(.ref x0), (.int x1), (.int x2), (.int x3), (.int x4)] 5 = mkF m 0 #[.val (.ref x0), .val (.int x1), .val (.int x2), .val (.int x3), .val (.int x4)] [] := by first | (simp [entryFrame, mkF, argsToLocals, Value.category]; done) | rfl
def Q_rmOk_1_3_1 (Z : State) (a1 : Addr) (ki : ClassId) (x0 : Int32) (x1 : Int32) (x2 : Int32) (x3 : Int32) (h0 : Heap) (n0 : Nat) (v : Option Value) (h : Heap) (L : List Loc) : Prop := v = some (.int (1 : Int32)) ∧ Fr n0 L ∧ h = h0
set_option maxRecDepth 65536 in
set_option maxHeartbeats 40000000 in
theorem rmOk_1_3_1 (l : Launch) (Z : State) (a0 : Array Value) (hw : ∀ d ∈ tables_1, d.before a0 Z = true) (ws : List Jvm.Cond) (a1 : Addr) (ki : ClassId) (x0 : Int32) (x1 : Int32) (x2 : Int32) (x3 : Int32) (h0 : Heap) (n0 : Nat) (Z0 : n0 ≤ h0.size) (pV_a1 : Arv Z h0 a1 ki .int (4 : Int32) [(.int x0), (.int x1), (.int x2), (.int x3)] (.int (0 : Int32))) :
    MetFree l (⟨"com/example/spillback/spillback/behaviour/PlanSelectorHighestPinLaw", "ok", "([IIIII)Z"⟩ : MethodName) (head1 (Jvm.Cond.code (⟨"com/example/spillback/spillback/behaviour/PlanSelectorHighestPinLaw", "ok", "([IIIII)Z"⟩ : MethodName) method_3_code 5 (some .boolean) :: ws) ({ frames := 0, cells := 0, slots := 0, locals := 0 } : Room)) (fun a U => a = #[(.ref a1), (.int (1 : Int32)), (.int (3 : Int32)), (.int (1 : Int32)), (.int x1)] ∧ Z.Warmed39 U.vm ∧ U.heap = h0) (fun _ _ _ _ _ => True) (fun _ U o U' => ∃ v L, o = .returned v ∧ Q_rmOk_1_3_1 Z a1 ki x0 x1 x2 x3 h0 n0 v U'.heap L ∧ FrameEnd U o U' L ({ frames := 0, cells := 0, slots := 0, locals := 0 } : Room).cells ({ frames := 0, cells := 0, slots := 0, locals := 0 } : Room).slots) := by
  refine MetFree.of_bodySF (plainFor_of_name pn_2) hisR ?_
  intro p e s m args below meth c s₁ Bd hml0 hP hK
  obtain ⟨rfl, hZ, hh⟩ := hP
  have hx := Bd.exec
  have hby := Bd.bytes
  have hml : c.maxLocals = 5 := hml0
  have hown : s.vm.findClass "com/example/spillback/spillback/behaviour/PlanSelectorHighestPinLaw" = some m.cls := findClass_of_methodNamed Bd.named
  have hnm := (name_of_methodNamed Bd.named Bd.method).1
  have X0 : Stand p l e ({ frames := 0, cells := 0, slots := 0, locals := 0 } : Room) s m #[(.ref a1), (.int (1 : Int32)), (.int (3 : Int32)), (.int (1 : Int32)), (.int x1)] below meth c s₁ [] 0 0 := Stand.of_body Bd
  have e0 : s₁.heap = h0 := by rw [← hh, Bd.state]; rfl
  have N0 := Fr.nil n0
  refine own_enter (ef_rmOk_1_3_1 m a1 ((1 : Int32)) ((3 : Int32)) ((1 : Int32)) x1) ?_
  have hn : ¬ (x1 < x1) := by rw [Int32.lt_iff_toInt_lt]; omega
  refine own_st (fun t_ k_ => XS.iloadN X0.here hx rfl (hb hby d2_0) rfl k_) ?_
  show own_Go p e below s₁ (mkF m 1 #[.val (.ref a1), .val (.int (1 : Int32)), .val (.int (3 : Int32)), .val (.int (1 : Int32)), .val (.int x1)] [(.int (1 : Int32))]) _
  refine own_st (fun t_ k_ => XS.iloadN X0.here hx rfl (hb hby d2_1) rfl k_) ?_
  show own_Go p e below s₁ (mkF m 2 #[.val (.ref a1), .val (.int (1 : Int32)), .val (.int (3 : Int32)), .val (.int (1 : Int32)), .val (.int x1)] [(.int (3 : Int32)), (.int (1 : Int32))]) _
  refine own_st (fun t_ k_ => XS.icmpYes X0.here hx rfl (pc0 := 2) (pc' := 7) rfl (hb hby d2_2) rfl (by decide) (by decide) (by decide) k_) ?_
  show own_Go p e below s₁ (mkF m 7 #[.val (.ref a1), .val (.int (1 : Int32)), .val (.int (3 : Int32)), .val (.int (1 : Int32)), .val (.int x1)] []) _
  refine own_st (fun t_ k_ => XS.aloadN X0.here hx rfl (hb hby d2_7) rfl rfl k_) ?_
  show own_Go p e below s₁ (mkF m 8 #[.val (.ref a1), .val (.int (1 : Int32)), .val (.int (3 : Int32)), .val (.int (1 : Int32)), .val (.int x1)] [(.ref a1)]) _
  refine own_st (fun t_ k_ => XS.iloadN X0.here hx rfl (hb hby d2_8) rfl k_) ?_
  show own_Go p e below s₁ (mkF m 9 #[.val (.ref a1), .val (.int (1 : Int32)), .val (.int (3 : Int32)), .val (.int (1 : Int32)), .val (.int x1)] [(.int (1 : Int32)), (.ref a1)]) _
  obtain ⟨cl1, Ar1, q1, Sz1, Nn1, Hh1, Gg1⟩ := id pV_a1
  have hin1 : ¬ ((1 : Int32) < 0 ∨ cl1.slots.size ≤ ((1 : Int32)).toNatClampNeg) := inb_of Sz1 ⟨by decide, by decide⟩
  have hat1 : cl1.slots[((1 : Int32)).toNatClampNeg]? = some (.int x1) := Has.at Hh1 hin1 rfl
  refine own_st (fun t_ k_ => X0.iaload hx (j := (1 : Int32)) (v := (.int x1)) (by rw [e0]; exact Ar1.1) (State.isArrayOf_alike hZ.alike Ar1.2.1) Ar1.2.2 hin1 hat1 (g := (mkF m 9 #[.val (.ref a1), .val (.int (1 : Int32)), .val (.int (3 : Int32)), .val (.int (1 : Int32)), .val (.int x1)] [(.int (1 : Int32)), (.ref a1)])) rfl rfl (hb hby d2_9) _ k_) ?_
  show own_Go p e below s₁ (mkF m 10 #[.val (.ref a1), .val (.int (1 : Int32)), .val (.int (3 : Int32)), .val (.int (1 : Int32)), .val (.int x1)] [(.int x1)]) _
  refine own_st (fun t_ k_ => XS.iload X0.here hx rfl (hb hby d2_10) rfl k_) ?_
  show own_Go p e below s₁ (mkF m 12 #[.val (.ref a1), .val (.int (1 : Int32)), .val (.int (3 : Int32)), .val (.int (1 : Int32)), .val (.int x1)] [(.int x1), (.int x1)]) _
  refine own_st (fun t_ k_ => XS.icmpYes X0.here hx rfl (pc0 := 12) (pc' := 17) rfl (hb hby d2_12) rfl (flt hn).2.2.2 (by decide) (by decide) k_) ?_
  show own_Go p e below s₁ (mkF m 17 #[.val (.ref a1), .val (.int (1 : Int32)), .val (.int (3 : Int32)), .val (.int (1 : Int32)), .val (.int x1)] []) _
  refine own_st (fun t_ k_ => XS.iloadN X0.here hx rfl (hb hby d2_17) rfl k_) ?_
  show own_Go p e below s₁ (mkF m 18 #[.val (.ref a1), .val (.int (1 : Int32)), .val (.int (3 : Int32)), .val (.int (1 : Int32)), .val (.int x1)] [(.int (1 : Int32))]) _
  refine own_st (fun t_ k_ => XS.iloadN X0.here hx rfl (hb hby d2_18) rfl k_) ?_
  show own_Go p e below s₁ (mkF m 19 #[.val (.ref a1), .val (.int (1 : Int32)), .val (.int (3 : Int32)), .val (.int (1 : Int32)), .val (.int x1)] [(.int (1 : Int32)), (.int (1 : Int32))]) _
  refine own_st (fun t_ k_ => XS.icmpYes X0.here hx rfl (pc0 := 19) (pc' := 32) rfl (hb hby d2_19) rfl (by decide) (by decide) (by decide) k_) ?_
  show own_Go p e below s₁ (mkF m 32 #[.val (.ref a1), .val (.int (1 : Int32)), .val (.int (3 : Int32)), .val (.int (1 : Int32)), .val (.int x1)] []) _
  refine own_st (fun t_ k_ => XS.iconst X0.here hx rfl (hb hby d2_32) k_) ?_
  show own_Go p e below s₁ (mkF m 33 #[.val (.ref a1), .val (.int (1 : Int32)), .val (.int (3 : Int32)), .val (.int (1 : Int32)), .val (.int x1)] [(.int (1 : Int32))]) _
  obtain ⟨fs, hr, hrun, hended, hW, hsame⟩ := X0.leave (v := some (.int (1 : Int32))) (fun h => by rw [Bd.returns] at h; cases h)
  refine own_fin (retN X0 hx (t := .boolean) Bd.returns (by simp) (hb hby d2_33) hr) ⟨hrun, hended, _, _, rfl, ?_, ⟨_, rfl⟩, hW, hsame.mono (by decide) (by decide)⟩
  show Q_rmOk_1_3_1 Z a1 ki x0 x1 x2 x3 h0 n0 _ s₁.heap _
  rw [e0]
  exact ⟨rfl, N0, rfl⟩
theorem ef_rmOk_2_3_1 (m : MethodId) (x0 : Addr) (x1 : Int32) (x2 : Int32) (x3 : Int32) (x4 : Int32) : entryFrame m #[(.ref x0), (.int x1), (.int x2), (.int x3), (.int x4)] 5 = mkF m 0 #[.val (.ref x0), .val (.int x1), .val (.int x2), .val (.int x3), .val (.int x4)] [] := by first | (simp [entryFrame, mkF, argsToLocals, Value.category]; done) | rfl
def Q_rmOk_2_3_1 (Z : State) (a1 : Addr) (ki : ClassId) (x0 : Int32) (x1 : Int32) (x2 : Int32) (x3 : Int32) (h0 : Heap) (n0 : Nat) (v : Option Value) (h : Heap) (L : List Loc) : Prop := v = some (.int (1 : Int32)) ∧ Fr n0 L ∧ h = h0
set_option maxRecDepth 65536 in
set_option maxHeartbeats 40000000 in
theorem rmOk_2_3_1 (l : Launch) (Z : State) (a0 : Array Value) (hw : ∀ d ∈ tables_1, d.before a0 Z = true) (ws : List Jvm.Cond) (a1 : Addr) (ki : ClassId) (x0 : Int32) (x1 : Int32) (x2 : Int32) (x3 : Int32) (h0 : Heap) (n0 : Nat) (Z0 : n0 ≤ h0.size) (pV_a1 : Arv Z h0 a1 ki .int (4 : Int32) [(.int x0), (.int x1), (.int x2), (.int x3)] (.int (0 : Int32))) (hle : (x2.toInt ≤ x1.toInt)) :
    MetFree l (⟨"com/example/spillback/spillback/behaviour/PlanSelectorHighestPinLaw", "ok", "([IIIII)Z"⟩ : MethodName) (head1 (Jvm.Cond.code (⟨"com/example/spillback/spillback/behaviour/PlanSelectorHighestPinLaw", "ok", "([IIIII)Z"⟩ : MethodName) method_3_code 5 (some .boolean) :: ws) ({ frames := 0, cells := 0, slots := 0, locals := 0 } : Room)) (fun a U => a = #[(.ref a1), (.int (2 : Int32)), (.int (3 : Int32)), (.int (1 : Int32)), (.int x1)] ∧ Z.Warmed39 U.vm ∧ U.heap = h0) (fun _ _ _ _ _ => True) (fun _ U o U' => ∃ v L, o = .returned v ∧ Q_rmOk_2_3_1 Z a1 ki x0 x1 x2 x3 h0 n0 v U'.heap L ∧ FrameEnd U o U' L ({ frames := 0, cells := 0, slots := 0, locals := 0 } : Room).cells ({ frames := 0, cells := 0, slots := 0, locals := 0 } : Room).slots) := by
  refine MetFree.of_bodySF (plainFor_of_name pn_2) hisR ?_
  intro p e s m args below meth c s₁ Bd hml0 hP hK
  obtain ⟨rfl, hZ, hh⟩ := hP
  have hx := Bd.exec
  have hby := Bd.bytes
  have hml : c.maxLocals = 5 := hml0
  have hown : s.vm.findClass "com/example/spillback/spillback/behaviour/PlanSelectorHighestPinLaw" = some m.cls := findClass_of_methodNamed Bd.named
  have hnm := (name_of_methodNamed Bd.named Bd.method).1
  have X0 : Stand p l e ({ frames := 0, cells := 0, slots := 0, locals := 0 } : Room) s m #[(.ref a1), (.int (2 : Int32)), (.int (3 : Int32)), (.int (1 : Int32)), (.int x1)] below meth c s₁ [] 0 0 := Stand.of_body Bd
  have e0 : s₁.heap = h0 := by rw [← hh, Bd.state]; rfl
  have N0 := Fr.nil n0
  refine own_enter (ef_rmOk_2_3_1 m a1 ((2 : Int32)) ((3 : Int32)) ((1 : Int32)) x1) ?_
  have hn : ¬ (x1 < x2) := by rw [Int32.lt_iff_toInt_lt]; omega
  refine own_st (fun t_ k_ => XS.iloadN X0.here hx rfl (hb hby d2_0) rfl k_) ?_
  show own_Go p e below s₁ (mkF m 1 #[.val (.ref a1), .val (.int (2 : Int32)), .val (.int (3 : Int32)), .val (.int (1 : Int32)), .val (.int x1)] [(.int (2 : Int32))]) _
  refine own_st (fun t_ k_ => XS.iloadN X0.here hx rfl (hb hby d2_1) rfl k_) ?_
  show own_Go p e below s₁ (mkF m 2 #[.val (.ref a1), .val (.int (2 : Int32)), .val (.int (3 : Int32)), .val (.int (1 : Int32)), .val (.int x1)] [(.int (3 : Int32)), (.int (2 : Int32))]) _
  refine own_st (fun t_ k_ => XS.icmpYes X0.here hx rfl (pc0 := 2) (pc' := 7) rfl (hb hby d2_2) rfl (by decide) (by decide) (by decide) k_) ?_
  show own_Go p e below s₁ (mkF m 7 #[.val (.ref a1), .val (.int (2 : Int32)), .val (.int (3 : Int32)), .val (.int (1 : Int32)), .val (.int x1)] []) _
  refine own_st (fun t_ k_ => XS.aloadN X0.here hx rfl (hb hby d2_7) rfl rfl k_) ?_
  show own_Go p e below s₁ (mkF m 8 #[.val (.ref a1), .val (.int (2 : Int32)), .val (.int (3 : Int32)), .val (.int (1 : Int32)), .val (.int x1)] [(.ref a1)]) _
  refine own_st (fun t_ k_ => XS.iloadN X0.here hx rfl (hb hby d2_8) rfl k_) ?_
  show own_Go p e below s₁ (mkF m 9 #[.val (.ref a1), .val (.int (2 : Int32)), .val (.int (3 : Int32)), .val (.int (1 : Int32)), .val (.int x1)] [(.int (2 : Int32)), (.ref a1)]) _
  obtain ⟨cl1, Ar1, q1, Sz1, Nn1, Hh1, Gg1⟩ := id pV_a1
  have hin1 : ¬ ((2 : Int32) < 0 ∨ cl1.slots.size ≤ ((2 : Int32)).toNatClampNeg) := inb_of Sz1 ⟨by decide, by decide⟩
  have hat1 : cl1.slots[((2 : Int32)).toNatClampNeg]? = some (.int x2) := Has.at Hh1 hin1 rfl
  refine own_st (fun t_ k_ => X0.iaload hx (j := (2 : Int32)) (v := (.int x2)) (by rw [e0]; exact Ar1.1) (State.isArrayOf_alike hZ.alike Ar1.2.1) Ar1.2.2 hin1 hat1 (g := (mkF m 9 #[.val (.ref a1), .val (.int (2 : Int32)), .val (.int (3 : Int32)), .val (.int (1 : Int32)), .val (.int x1)] [(.int (2 : Int32)), (.ref a1)])) rfl rfl (hb hby d2_9) _ k_) ?_
  show own_Go p e below s₁ (mkF m 10 #[.val (.ref a1), .val (.int (2 : Int32)), .val (.int (3 : Int32)), .val (.int (1 : Int32)), .val (.int x1)] [(.int x2)]) _
  refine own_st (fun t_ k_ => XS.iload X0.here hx rfl (hb hby d2_10) rfl k_) ?_
  show own_Go p e below s₁ (mkF m 12 #[.val (.ref a1), .val (.int (2 : Int32)), .val (.int (3 : Int32)), .val (.int (1 : Int32)), .val (.int x1)] [(.int x1), (.int x2)]) _
  refine own_st (fun t_ k_ => XS.icmpYes X0.here hx rfl (pc0 := 12) (pc' := 17) rfl (hb hby d2_12) rfl (flt hn).2.2.2 (by decide) (by decide) k_) ?_
  show own_Go p e below s₁ (mkF m 17 #[.val (.ref a1), .val (.int (2 : Int32)), .val (.int (3 : Int32)), .val (.int (1 : Int32)), .val (.int x1)] []) _
  refine own_st (fun t_ k_ => XS.iloadN X0.here hx rfl (hb hby d2_17) rfl k_) ?_
  show own_Go p e below s₁ (mkF m 18 #[.val (.ref a1), .val (.int (2 : Int32)), .val (.int (3 : Int32)), .val (.int (1 : Int32)), .val (.int x1)] [(.int (2 : Int32))]) _
  refine own_st (fun t_ k_ => XS.iloadN X0.here hx rfl (hb hby d2_18) rfl k_) ?_
  show own_Go p e below s₁ (mkF m 19 #[.val (.ref a1), .val (.int (2 : Int32)), .val (.int (3 : Int32)), .val (.int (1 : Int32)), .val (.int x1)] [(.int (1 : Int32)), (.int (2 : Int32))]) _
  refine own_st (fun t_ k_ => XS.icmpYes X0.here hx rfl (pc0 := 19) (pc' := 32) rfl (hb hby d2_19) rfl (by decide) (by decide) (by decide) k_) ?_
  show own_Go p e below s₁ (mkF m 32 #[.val (.ref a1), .val (.int (2 : Int32)), .val (.int (3 : Int32)), .val (.int (1 : Int32)), .val (.int x1)] []) _
  refine own_st (fun t_ k_ => XS.iconst X0.here hx rfl (hb hby d2_32) k_) ?_
  show own_Go p e below s₁ (mkF m 33 #[.val (.ref a1), .val (.int (2 : Int32)), .val (.int (3 : Int32)), .val (.int (1 : Int32)), .val (.int x1)] [(.int (1 : Int32))]) _
  obtain ⟨fs, hr, hrun, hended, hW, hsame⟩ := X0.leave (v := some (.int (1 : Int32))) (fun h => by rw [Bd.returns] at h; cases h)
  refine own_fin (retN X0 hx (t := .boolean) Bd.returns (by simp) (hb hby d2_33) hr) ⟨hrun, hended, _, _, rfl, ?_, ⟨_, rfl⟩, hW, hsame.mono (by decide) (by decide)⟩
  show Q_rmOk_2_3_1 Z a1 ki x0 x1 x2 x3 h0 n0 _ s₁.heap _
  rw [e0]
  exact ⟨rfl, N0, rfl⟩
theorem ef_rmOk_3_3_1 (m : MethodId) (x0 : Addr) (x1 : Int32) (x2 : Int32) (x3 : Int32) (x4 : Int32) : entryFrame m #[(.ref x0), (.int x1), (.int x2), (.int x3), (.int x4)] 5 = mkF m 0 #[.val (.ref x0), .val (.int x1), .val (.int x2), .val (.int x3), .val (.int x4)] [] := by first | (simp [entryFrame, mkF, argsToLocals, Value.category]; done) | rfl
def Q_rmOk_3_3_1 (Z : State) (a1 : Addr) (ki : ClassId) (x0 : Int32) (x1 : Int32) (x2 : Int32) (x3 : Int32) (h0 : Heap) (n0 : Nat) (v : Option Value) (h : Heap) (L : List Loc) : Prop := v = some (.int (1 : Int32)) ∧ Fr n0 L ∧ h = h0
set_option maxRecDepth 65536 in
set_option maxHeartbeats 40000000 in
theorem rmOk_3_3_1 (l : Launch) (Z : State) (a0 : Array Value) (hw : ∀ d ∈ tables_1, d.before a0 Z = true) (ws : List Jvm.Cond) (a1 : Addr) (ki : ClassId) (x0 : Int32) (x1 : Int32) (x2 : Int32) (x3 : Int32) (h0 : Heap) (n0 : Nat) (Z0 : n0 ≤ h0.size) (pV_a1 : Arv Z h0 a1 ki .int (4 : Int32) [(.int x0), (.int x1), (.int x2), (.int x3)] (.int (0 : Int32))) :
    MetFree l (⟨"com/example/spillback/spillback/behaviour/PlanSelectorHighestPinLaw", "ok", "([IIIII)Z"⟩ : MethodName) (head1 (Jvm.Cond.code (⟨"com/example/spillback/spillback/behaviour/PlanSelectorHighestPinLaw", "ok", "([IIIII)Z"⟩ : MethodName) method_3_code 5 (some .boolean) :: ws) ({ frames := 0, cells := 0, slots := 0, locals := 0 } : Room)) (fun a U => a = #[(.ref a1), (.int (3 : Int32)), (.int (3 : Int32)), (.int (1 : Int32)), (.int x1)] ∧ Z.Warmed39 U.vm ∧ U.heap = h0) (fun _ _ _ _ _ => True) (fun _ U o U' => ∃ v L, o = .returned v ∧ Q_rmOk_3_3_1 Z a1 ki x0 x1 x2 x3 h0 n0 v U'.heap L ∧ FrameEnd U o U' L ({ frames := 0, cells := 0, slots := 0, locals := 0 } : Room).cells ({ frames := 0, cells := 0, slots := 0, locals := 0 } : Room).slots) := by
  refine MetFree.of_bodySF (plainFor_of_name pn_2) hisR ?_
  intro p e s m args below meth c s₁ Bd hml0 hP hK
  obtain ⟨rfl, hZ, hh⟩ := hP
  have hx := Bd.exec
  have hby := Bd.bytes
  have hml : c.maxLocals = 5 := hml0
  have hown : s.vm.findClass "com/example/spillback/spillback/behaviour/PlanSelectorHighestPinLaw" = some m.cls := findClass_of_methodNamed Bd.named
  have hnm := (name_of_methodNamed Bd.named Bd.method).1
  have X0 : Stand p l e ({ frames := 0, cells := 0, slots := 0, locals := 0 } : Room) s m #[(.ref a1), (.int (3 : Int32)), (.int (3 : Int32)), (.int (1 : Int32)), (.int x1)] below meth c s₁ [] 0 0 := Stand.of_body Bd
  have e0 : s₁.heap = h0 := by rw [← hh, Bd.state]; rfl
  have N0 := Fr.nil n0
  refine own_enter (ef_rmOk_3_3_1 m a1 ((3 : Int32)) ((3 : Int32)) ((1 : Int32)) x1) ?_
  skip
  refine own_st (fun t_ k_ => XS.iloadN X0.here hx rfl (hb hby d2_0) rfl k_) ?_
  show own_Go p e below s₁ (mkF m 1 #[.val (.ref a1), .val (.int (3 : Int32)), .val (.int (3 : Int32)), .val (.int (1 : Int32)), .val (.int x1)] [(.int (3 : Int32))]) _
  refine own_st (fun t_ k_ => XS.iloadN X0.here hx rfl (hb hby d2_1) rfl k_) ?_
  show own_Go p e below s₁ (mkF m 2 #[.val (.ref a1), .val (.int (3 : Int32)), .val (.int (3 : Int32)), .val (.int (1 : Int32)), .val (.int x1)] [(.int (3 : Int32)), (.int (3 : Int32))]) _
  refine own_st (fun t_ k_ => XS.icmpNo X0.here hx rfl (hb hby d2_2) rfl (by decide) k_) ?_
  show own_Go p e below s₁ (mkF m 5 #[.val (.ref a1), .val (.int (3 : Int32)), .val (.int (3 : Int32)), .val (.int (1 : Int32)), .val (.int x1)] []) _
  refine own_st (fun t_ k_ => XS.iconst X0.here hx rfl (hb hby d2_5) k_) ?_
  show own_Go p e below s₁ (mkF m 6 #[.val (.ref a1), .val (.int (3 : Int32)), .val (.int (3 : Int32)), .val (.int (1 : Int32)), .val (.int x1)] [(.int (1 : Int32))]) _
  obtain ⟨fs, hr, hrun, hended, hW, hsame⟩ := X0.leave (v := some (.int (1 : Int32))) (fun h => by rw [Bd.returns] at h; cases h)
  refine own_fin (retN X0 hx (t := .boolean) Bd.returns (by simp) (hb hby d2_6) hr) ⟨hrun, hended, _, _, rfl, ?_, ⟨_, rfl⟩, hW, hsame.mono (by decide) (by decide)⟩
  show Q_rmOk_3_3_1 Z a1 ki x0 x1 x2 x3 h0 n0 _ s₁.heap _
  rw [e0]
  exact ⟨rfl, N0, rfl⟩
theorem ef_rmOk_0_3_2 (m : MethodId) (x0 : Addr) (x1 : Int32) (x2 : Int32) (x3 : Int32) (x4 : Int32) : entryFrame m #[(.ref x0), (.int x1), (.int x2), (.int x3), (.int x4)] 5 = mkF m 0 #[.val (.ref x0), .val (.int x1), .val (.int x2), .val (.int x3), .val (.int x4)] [] := by first | (simp [entryFrame, mkF, argsToLocals, Value.category]; done) | rfl
def Q_rmOk_0_3_2 (Z : State) (a1 : Addr) (ki : ClassId) (x0 : Int32) (x1 : Int32) (x2 : Int32) (x3 : Int32) (h0 : Heap) (n0 : Nat) (v : Option Value) (h : Heap) (L : List Loc) : Prop := v = some (.int (1 : Int32)) ∧ Fr n0 L ∧ h = h0
set_option maxRecDepth 65536 in
set_option maxHeartbeats 40000000 in
theorem rmOk_0_3_2 (l : Launch) (Z : State) (a0 : Array Value) (hw : ∀ d ∈ tables_1, d.before a0 Z = true) (ws : List Jvm.Cond) (a1 : Addr) (ki : ClassId) (x0 : Int32) (x1 : Int32) (x2 : Int32) (x3 : Int32) (h0 : Heap) (n0 : Nat) (Z0 : n0 ≤ h0.size) (pV_a1 : Arv Z h0 a1 ki .int (4 : Int32) [(.int x0), (.int x1), (.int x2), (.int x3)] (.int (0 : Int32))) (hle : (x0.toInt < x2.toInt)) :
    MetFree l (⟨"com/example/spillback/spillback/behaviour/PlanSelectorHighestPinLaw", "ok", "([IIIII)Z"⟩ : MethodName) (head1 (Jvm.Cond.code (⟨"com/example/spillback/spillback/behaviour/PlanSelectorHighestPinLaw", "ok", "([IIIII)Z"⟩ : MethodName) method_3_code 5 (some .boolean) :: ws) ({ frames := 0, cells := 0, slots := 0, locals := 0 } : Room)) (fun a U => a = #[(.ref a1), (.int (0 : Int32)), (.int (3 : Int32)), (.int (2 : Int32)), (.int x2)] ∧ Z.Warmed39 U.vm ∧ U.heap = h0) (fun _ _ _ _ _ => True) (fun _ U o U' => ∃ v L, o = .returned v ∧ Q_rmOk_0_3_2 Z a1 ki x0 x1 x2 x3 h0 n0 v U'.heap L ∧ FrameEnd U o U' L ({ frames := 0, cells := 0, slots := 0, locals := 0 } : Room).cells ({ frames := 0, cells := 0, slots := 0, locals := 0 } : Room).slots) := by
  refine MetFree.of_bodySF (plainFor_of_name pn_2) hisR ?_
  intro p e s m args below meth c s₁ Bd hml0 hP hK
  obtain ⟨rfl, hZ, hh⟩ := hP
  have hx := Bd.exec
  have hby := Bd.bytes
  have hml : c.maxLocals = 5 := hml0
  have hown : s.vm.findClass "com/example/spillback/spillback/behaviour/PlanSelectorHighestPinLaw" = some m.cls := findClass_of_methodNamed Bd.named
  have hnm := (name_of_methodNamed Bd.named Bd.method).1
  have X0 : Stand p l e ({ frames := 0, cells := 0, slots := 0, locals := 0 } : Room) s m #[(.ref a1), (.int (0 : Int32)), (.int (3 : Int32)), (.int (2 : Int32)), (.int x2)] below meth c s₁ [] 0 0 := Stand.of_body Bd
  have e0 : s₁.heap = h0 := by rw [← hh, Bd.state]; rfl
  have N0 := Fr.nil n0
  refine own_enter (ef_rmOk_0_3_2 m a1 ((0 : Int32)) ((3 : Int32)) ((2 : Int32)) x2) ?_
  have hn : ¬ (x2 < x0) := by rw [Int32.lt_iff_toInt_lt]; omega
  have hd : ¬ (x0 = x2) := fun q => by subst q; omega
  refine own_st (fun t_ k_ => XS.iloadN X0.here hx rfl (hb hby d2_0) rfl k_) ?_
  show own_Go p e below s₁ (mkF m 1 #[.val (.ref a1), .val (.int (0 : Int32)), .val (.int (3 : Int32)), .val (.int (2 : Int32)), .val (.int x2)] [(.int (0 : Int32))]) _
  refine own_st (fun t_ k_ => XS.iloadN X0.here hx rfl (hb hby d2_1) rfl k_) ?_
  show own_Go p e below s₁ (mkF m 2 #[.val (.ref a1), .val (.int (0 : Int32)), .val (.int (3 : Int32)), .val (.int (2 : Int32)), .val (.int x2)] [(.int (3 : Int32)), (.int (0 : Int32))]) _
  refine own_st (fun t_ k_ => XS.icmpYes X0.here hx rfl (pc0 := 2) (pc' := 7) rfl (hb hby d2_2) rfl (by decide) (by decide) (by decide) k_) ?_
  show own_Go p e below s₁ (mkF m 7 #[.val (.ref a1), .val (.int (0 : Int32)), .val (.int (3 : Int32)), .val (.int (2 : Int32)), .val (.int x2)] []) _
  refine own_st (fun t_ k_ => XS.aloadN X0.here hx rfl (hb hby d2_7) rfl rfl k_) ?_
  show own_Go p e below s₁ (mkF m 8 #[.val (.ref a1), .val (.int (0 : Int32)), .val (.int (3 : Int32)), .val (.int (2 : Int32)), .val (.int x2)] [(.ref a1)]) _
  refine own_st (fun t_ k_ => XS.iloadN X0.here hx rfl (hb hby d2_8) rfl k_) ?_
  show own_Go p e below s₁ (mkF m 9 #[.val (.ref a1), .val (.int (0 : Int32)), .val (.int (3 : Int32)), .val (.int (2 : Int32)), .val (.int x2)] [(.int (0 : Int32)), (.ref a1)]) _
  obtain ⟨cl1, Ar1, q1, Sz1, Nn1, Hh1, Gg1⟩ := id pV_a1
  have hin1 : ¬ ((0 : Int32) < 0 ∨ cl1.slots.size ≤ ((0 : Int32)).toNatClampNeg) := inb_of Sz1 ⟨by decide, by decide⟩
  have hat1 : cl1.slots[((0 : Int32)).toNatClampNeg]? = some (.int x0) := Has.at Hh1 hin1 rfl
  refine own_st (fun t_ k_ => X0.iaload hx (j := (0 : Int32)) (v := (.int x0)) (by rw [e0]; exact Ar1.1) (State.isArrayOf_alike hZ.alike Ar1.2.1) Ar1.2.2 hin1 hat1 (g := (mkF m 9 #[.val (.ref a1), .val (.int (0 : Int32)), .val (.int (3 : Int32)), .val (.int (2 : Int32)), .val (.int x2)] [(.int (0 : Int32)), (.ref a1)])) rfl rfl (hb hby d2_9) _ k_) ?_
  show own_Go p e below s₁ (mkF m 10 #[.val (.ref a1), .val (.int (0 : Int32)), .val (.int (3 : Int32)), .val (.int (2 : Int32)), .val (.int x2)] [(.int x0)]) _
  refine own_st (fun t_ k_ => XS.iload X0.here hx rfl (hb hby d2_10) rfl k_) ?_
  show own_Go p e below s₁ (mkF m 12 #[.val (.ref a1), .val (.int (0 : Int32)), .val (.int (3 : Int32)), .val (.int (2 : Int32)), .val (.int x2)] [(.int x2), (.int x0)]) _
  refine own_st (fun t_ k_ => XS.icmpYes X0.here hx rfl (pc0 := 12) (pc' := 17) rfl (hb hby d2_12) rfl (flt hn).2.2.2 (by decide) (by decide) k_) ?_
  show own_Go p e below s₁ (mkF m 17 #[.val (.ref a1), .val (.int (0 : Int32)), .val (.int (3 : Int32)), .val (.int (2 : Int32)), .val (.int x2)] []) _
  refine own_st (fun t_ k_ => XS.iloadN X0.here hx rfl (hb hby d2_17) rfl k_) ?_
  show own_Go p e below s₁ (mkF m 18 #[.val (.ref a1), .val (.int (0 : Int32)), .val (.int (3 : Int32)), .val (.int (2 : Int32)), .val (.int x2)] [(.int (0 : Int32))]) _
  refine own_st (fun t_ k_ => XS.iloadN X0.here hx rfl (hb hby d2_18) rfl k_) ?_
  show own_Go p e below s₁ (mkF m 19 #[.val (.ref a1), .val (.int (0 : Int32)), .val (.int (3 : Int32)), .val (.int (2 : Int32)), .val (.int x2)] [(.int (2 : Int32)), (.int (0 : Int32))]) _
  refine own_st (fun t_ k_ => XS.icmpNo X0.here hx rfl (hb hby d2_19) rfl (by decide) k_) ?_
  show own_Go p e below s₁ (mkF m 22 #[.val (.ref a1), .val (.int (0 : Int32)), .val (.int (3 : Int32)), .val (.int (2 : Int32)), .val (.int x2)] []) _
  refine own_st (fun t_ k_ => XS.aloadN X0.here hx rfl (hb hby d2_22) rfl rfl k_) ?_
  show own_Go p e below s₁ (mkF m 23 #[.val (.ref a1), .val (.int (0 : Int32)), .val (.int (3 : Int32)), .val (.int (2 : Int32)), .val (.int x2)] [(.ref a1)]) _
  refine own_st (fun t_ k_ => XS.iloadN X0.here hx rfl (hb hby d2_23) rfl k_) ?_
  show own_Go p e below s₁ (mkF m 24 #[.val (.ref a1), .val (.int (0 : Int32)), .val (.int (3 : Int32)), .val (.int (2 : Int32)), .val (.int x2)] [(.int (0 : Int32)), (.ref a1)]) _
  obtain ⟨cl2, Ar2, q2, Sz2, Nn2, Hh2, Gg2⟩ := id pV_a1
  have hin2 : ¬ ((0 : Int32) < 0 ∨ cl2.slots.size ≤ ((0 : Int32)).toNatClampNeg) := inb_of Sz2 ⟨by decide, by decide⟩
  have hat2 : cl2.slots[((0 : Int32)).toNatClampNeg]? = some (.int x0) := Has.at Hh2 hin2 rfl
  refine own_st (fun t_ k_ => X0.iaload hx (j := (0 : Int32)) (v := (.int x0)) (by rw [e0]; exact Ar2.1) (State.isArrayOf_alike hZ.alike Ar2.2.1) Ar2.2.2 hin2 hat2 (g := (mkF m 24 #[.val (.ref a1), .val (.int (0 : Int32)), .val (.int (3 : Int32)), .val (.int (2 : Int32)), .val (.int x2)] [(.int (0 : Int32)), (.ref a1)])) rfl rfl (hb hby d2_24) _ k_) ?_
  show own_Go p e below s₁ (mkF m 25 #[.val (.ref a1), .val (.int (0 : Int32)), .val (.int (3 : Int32)), .val (.int (2 : Int32)), .val (.int x2)] [(.int x0)]) _
  refine own_st (fun t_ k_ => XS.iload X0.here hx rfl (hb hby d2_25) rfl k_) ?_
  show own_Go p e below s₁ (mkF m 27 #[.val (.ref a1), .val (.int (0 : Int32)), .val (.int (3 : Int32)), .val (.int (2 : Int32)), .val (.int x2)] [(.int x2), (.int x0)]) _
  refine own_st (fun t_ k_ => XS.icmpYes X0.here hx rfl (pc0 := 27) (pc' := 32) rfl (hb hby d2_27) rfl (feq hd).2 (by decide) (by decide) k_) ?_
  show own_Go p e below s₁ (mkF m 32 #[.val (.ref a1), .val (.int (0 : Int32)), .val (.int (3 : Int32)), .val (.int (2 : Int32)), .val (.int x2)] []) _
  refine own_st (fun t_ k_ => XS.iconst X0.here hx rfl (hb hby d2_32) k_) ?_
  show own_Go p e below s₁ (mkF m 33 #[.val (.ref a1), .val (.int (0 : Int32)), .val (.int (3 : Int32)), .val (.int (2 : Int32)), .val (.int x2)] [(.int (1 : Int32))]) _
  obtain ⟨fs, hr, hrun, hended, hW, hsame⟩ := X0.leave (v := some (.int (1 : Int32))) (fun h => by rw [Bd.returns] at h; cases h)
  refine own_fin (retN X0 hx (t := .boolean) Bd.returns (by simp) (hb hby d2_33) hr) ⟨hrun, hended, _, _, rfl, ?_, ⟨_, rfl⟩, hW, hsame.mono (by decide) (by decide)⟩
  show Q_rmOk_0_3_2 Z a1 ki x0 x1 x2 x3 h0 n0 _ s₁.heap _
  rw [e0]
  exact ⟨rfl, N0, rfl⟩
theorem ef_rmOk_1_3_2 (m : MethodId) (x0 : Addr) (x1 : Int32) (x2 : Int32) (x3 : Int32) (x4 : Int32) : entryFrame m #[(.ref x0), (.int x1), (.int x2), (.int x3), (.int x4)] 5 = mkF m 0 #[.val (.ref x0), .val (.int x1), .val (.int x2), .val (.int x3), .val (.int x4)] [] := by first | (simp [entryFrame, mkF, argsToLocals, Value.category]; done) | rfl
def Q_rmOk_1_3_2 (Z : State) (a1 : Addr) (ki : ClassId) (x0 : Int32) (x1 : Int32) (x2 : Int32) (x3 : Int32) (h0 : Heap) (n0 : Nat) (v : Option Value) (h : Heap) (L : List Loc) : Prop := v = some (.int (1 : Int32)) ∧ Fr n0 L ∧ h = h0
set_option maxRecDepth 65536 in
set_option maxHeartbeats 40000000 in
theorem rmOk_1_3_2 (l : Launch) (Z : State) (a0 : Array Value) (hw : ∀ d ∈ tables_1, d.before a0 Z = true) (ws : List Jvm.Cond) (a1 : Addr) (ki : ClassId) (x0 : Int32) (x1 : Int32) (x2 : Int32) (x3 : Int32) (h0 : Heap) (n0 : Nat) (Z0 : n0 ≤ h0.size) (pV_a1 : Arv Z h0 a1 ki .int (4 : Int32) [(.int x0), (.int x1), (.int x2), (.int x3)] (.int (0 : Int32))) (hle : (x1.toInt < x2.toInt)) :
    MetFree l (⟨"com/example/spillback/spillback/behaviour/PlanSelectorHighestPinLaw", "ok", "([IIIII)Z"⟩ : MethodName) (head1 (Jvm.Cond.code (⟨"com/example/spillback/spillback/behaviour/PlanSelectorHighestPinLaw", "ok", "([IIIII)Z"⟩ : MethodName) method_3_code 5 (some .boolean) :: ws) ({ frames := 0, cells := 0, slots := 0, locals := 0 } : Room)) (fun a U => a = #[(.ref a1), (.int (1 : Int32)), (.int (3 : Int32)), (.int (2 : Int32)), (.int x2)] ∧ Z.Warmed39 U.vm ∧ U.heap = h0) (fun _ _ _ _ _ => True) (fun _ U o U' => ∃ v L, o = .returned v ∧ Q_rmOk_1_3_2 Z a1 ki x0 x1 x2 x3 h0 n0 v U'.heap L ∧ FrameEnd U o U' L ({ frames := 0, cells := 0, slots := 0, locals := 0 } : Room).cells ({ frames := 0, cells := 0, slots := 0, locals := 0 } : Room).slots) := by
  refine MetFree.of_bodySF (plainFor_of_name pn_2) hisR ?_
  intro p e s m args below meth c s₁ Bd hml0 hP hK
  obtain ⟨rfl, hZ, hh⟩ := hP
  have hx := Bd.exec
  have hby := Bd.bytes
  have hml : c.maxLocals = 5 := hml0
  have hown : s.vm.findClass "com/example/spillback/spillback/behaviour/PlanSelectorHighestPinLaw" = some m.cls := findClass_of_methodNamed Bd.named
  have hnm := (name_of_methodNamed Bd.named Bd.method).1
  have X0 : Stand p l e ({ frames := 0, cells := 0, slots := 0, locals := 0 } : Room) s m #[(.ref a1), (.int (1 : Int32)), (.int (3 : Int32)), (.int (2 : Int32)), (.int x2)] below meth c s₁ [] 0 0 := Stand.of_body Bd
  have e0 : s₁.heap = h0 := by rw [← hh, Bd.state]; rfl
  have N0 := Fr.nil n0
  refine own_enter (ef_rmOk_1_3_2 m a1 ((1 : Int32)) ((3 : Int32)) ((2 : Int32)) x2) ?_
  have hn : ¬ (x2 < x1) := by rw [Int32.lt_iff_toInt_lt]; omega
  have hd : ¬ (x1 = x2) := fun q => by subst q; omega
  refine own_st (fun t_ k_ => XS.iloadN X0.here hx rfl (hb hby d2_0) rfl k_) ?_
  show own_Go p e below s₁ (mkF m 1 #[.val (.ref a1), .val (.int (1 : Int32)), .val (.int (3 : Int32)), .val (.int (2 : Int32)), .val (.int x2)] [(.int (1 : Int32))]) _
  refine own_st (fun t_ k_ => XS.iloadN X0.here hx rfl (hb hby d2_1) rfl k_) ?_
  show own_Go p e below s₁ (mkF m 2 #[.val (.ref a1), .val (.int (1 : Int32)), .val (.int (3 : Int32)), .val (.int (2 : Int32)), .val (.int x2)] [(.int (3 : Int32)), (.int (1 : Int32))]) _
  refine own_st (fun t_ k_ => XS.icmpYes X0.here hx rfl (pc0 := 2) (pc' := 7) rfl (hb hby d2_2) rfl (by decide) (by decide) (by decide) k_) ?_
  show own_Go p e below s₁ (mkF m 7 #[.val (.ref a1), .val (.int (1 : Int32)), .val (.int (3 : Int32)), .val (.int (2 : Int32)), .val (.int x2)] []) _
  refine own_st (fun t_ k_ => XS.aloadN X0.here hx rfl (hb hby d2_7) rfl rfl k_) ?_
  show own_Go p e below s₁ (mkF m 8 #[.val (.ref a1), .val (.int (1 : Int32)), .val (.int (3 : Int32)), .val (.int (2 : Int32)), .val (.int x2)] [(.ref a1)]) _
  refine own_st (fun t_ k_ => XS.iloadN X0.here hx rfl (hb hby d2_8) rfl k_) ?_
  show own_Go p e below s₁ (mkF m 9 #[.val (.ref a1), .val (.int (1 : Int32)), .val (.int (3 : Int32)), .val (.int (2 : Int32)), .val (.int x2)] [(.int (1 : Int32)), (.ref a1)]) _
  obtain ⟨cl1, Ar1, q1, Sz1, Nn1, Hh1, Gg1⟩ := id pV_a1
  have hin1 : ¬ ((1 : Int32) < 0 ∨ cl1.slots.size ≤ ((1 : Int32)).toNatClampNeg) := inb_of Sz1 ⟨by decide, by decide⟩
  have hat1 : cl1.slots[((1 : Int32)).toNatClampNeg]? = some (.int x1) := Has.at Hh1 hin1 rfl
  refine own_st (fun t_ k_ => X0.iaload hx (j := (1 : Int32)) (v := (.int x1)) (by rw [e0]; exact Ar1.1) (State.isArrayOf_alike hZ.alike Ar1.2.1) Ar1.2.2 hin1 hat1 (g := (mkF m 9 #[.val (.ref a1), .val (.int (1 : Int32)), .val (.int (3 : Int32)), .val (.int (2 : Int32)), .val (.int x2)] [(.int (1 : Int32)), (.ref a1)])) rfl rfl (hb hby d2_9) _ k_) ?_
  show own_Go p e below s₁ (mkF m 10 #[.val (.ref a1), .val (.int (1 : Int32)), .val (.int (3 : Int32)), .val (.int (2 : Int32)), .val (.int x2)] [(.int x1)]) _
  refine own_st (fun t_ k_ => XS.iload X0.here hx rfl (hb hby d2_10) rfl k_) ?_
  show own_Go p e below s₁ (mkF m 12 #[.val (.ref a1), .val (.int (1 : Int32)), .val (.int (3 : Int32)), .val (.int (2 : Int32)), .val (.int x2)] [(.int x2), (.int x1)]) _
  refine own_st (fun t_ k_ => XS.icmpYes X0.here hx rfl (pc0 := 12) (pc' := 17) rfl (hb hby d2_12) rfl (flt hn).2.2.2 (by decide) (by decide) k_) ?_
  show own_Go p e below s₁ (mkF m 17 #[.val (.ref a1), .val (.int (1 : Int32)), .val (.int (3 : Int32)), .val (.int (2 : Int32)), .val (.int x2)] []) _
  refine own_st (fun t_ k_ => XS.iloadN X0.here hx rfl (hb hby d2_17) rfl k_) ?_
  show own_Go p e below s₁ (mkF m 18 #[.val (.ref a1), .val (.int (1 : Int32)), .val (.int (3 : Int32)), .val (.int (2 : Int32)), .val (.int x2)] [(.int (1 : Int32))]) _
  refine own_st (fun t_ k_ => XS.iloadN X0.here hx rfl (hb hby d2_18) rfl k_) ?_
  show own_Go p e below s₁ (mkF m 19 #[.val (.ref a1), .val (.int (1 : Int32)), .val (.int (3 : Int32)), .val (.int (2 : Int32)), .val (.int x2)] [(.int (2 : Int32)), (.int (1 : Int32))]) _
  refine own_st (fun t_ k_ => XS.icmpNo X0.here hx rfl (hb hby d2_19) rfl (by decide) k_) ?_
  show own_Go p e below s₁ (mkF m 22 #[.val (.ref a1), .val (.int (1 : Int32)), .val (.int (3 : Int32)), .val (.int (2 : Int32)), .val (.int x2)] []) _
  refine own_st (fun t_ k_ => XS.aloadN X0.here hx rfl (hb hby d2_22) rfl rfl k_) ?_
  show own_Go p e below s₁ (mkF m 23 #[.val (.ref a1), .val (.int (1 : Int32)), .val (.int (3 : Int32)), .val (.int (2 : Int32)), .val (.int x2)] [(.ref a1)]) _
  refine own_st (fun t_ k_ => XS.iloadN X0.here hx rfl (hb hby d2_23) rfl k_) ?_
  show own_Go p e below s₁ (mkF m 24 #[.val (.ref a1), .val (.int (1 : Int32)), .val (.int (3 : Int32)), .val (.int (2 : Int32)), .val (.int x2)] [(.int (1 : Int32)), (.ref a1)]) _
  obtain ⟨cl2, Ar2, q2, Sz2, Nn2, Hh2, Gg2⟩ := id pV_a1
  have hin2 : ¬ ((1 : Int32) < 0 ∨ cl2.slots.size ≤ ((1 : Int32)).toNatClampNeg) := inb_of Sz2 ⟨by decide, by decide⟩
  have hat2 : cl2.slots[((1 : Int32)).toNatClampNeg]? = some (.int x1) := Has.at Hh2 hin2 rfl
  refine own_st (fun t_ k_ => X0.iaload hx (j := (1 : Int32)) (v := (.int x1)) (by rw [e0]; exact Ar2.1) (State.isArrayOf_alike hZ.alike Ar2.2.1) Ar2.2.2 hin2 hat2 (g := (mkF m 24 #[.val (.ref a1), .val (.int (1 : Int32)), .val (.int (3 : Int32)), .val (.int (2 : Int32)), .val (.int x2)] [(.int (1 : Int32)), (.ref a1)])) rfl rfl (hb hby d2_24) _ k_) ?_
  show own_Go p e below s₁ (mkF m 25 #[.val (.ref a1), .val (.int (1 : Int32)), .val (.int (3 : Int32)), .val (.int (2 : Int32)), .val (.int x2)] [(.int x1)]) _
  refine own_st (fun t_ k_ => XS.iload X0.here hx rfl (hb hby d2_25) rfl k_) ?_
  show own_Go p e below s₁ (mkF m 27 #[.val (.ref a1), .val (.int (1 : Int32)), .val (.int (3 : Int32)), .val (.int (2 : Int32)), .val (.int x2)] [(.int x2), (.int x1)]) _
  refine own_st (fun t_ k_ => XS.icmpYes X0.here hx rfl (pc0 := 27) (pc' := 32) rfl (hb hby d2_27) rfl (feq hd).2 (by decide) (by decide) k_) ?_
  show own_Go p e below s₁ (mkF m 32 #[.val (.ref a1), .val (.int (1 : Int32)), .val (.int (3 : Int32)), .val (.int (2 : Int32)), .val (.int x2)] []) _
  refine own_st (fun t_ k_ => XS.iconst X0.here hx rfl (hb hby d2_32) k_) ?_
  show own_Go p e below s₁ (mkF m 33 #[.val (.ref a1), .val (.int (1 : Int32)), .val (.int (3 : Int32)), .val (.int (2 : Int32)), .val (.int x2)] [(.int (1 : Int32))]) _
  obtain ⟨fs, hr, hrun, hended, hW, hsame⟩ := X0.leave (v := some (.int (1 : Int32))) (fun h => by rw [Bd.returns] at h; cases h)
  refine own_fin (retN X0 hx (t := .boolean) Bd.returns (by simp) (hb hby d2_33) hr) ⟨hrun, hended, _, _, rfl, ?_, ⟨_, rfl⟩, hW, hsame.mono (by decide) (by decide)⟩
  show Q_rmOk_1_3_2 Z a1 ki x0 x1 x2 x3 h0 n0 _ s₁.heap _
  rw [e0]
  exact ⟨rfl, N0, rfl⟩
theorem ef_rmOk_2_3_2 (m : MethodId) (x0 : Addr) (x1 : Int32) (x2 : Int32) (x3 : Int32) (x4 : Int32) : entryFrame m #[(.ref x0), (.int x1), (.int x2), (.int x3), (.int x4)] 5 = mkF m 0 #[.val (.ref x0), .val (.int x1), .val (.int x2), .val (.int x3), .val (.int x4)] [] := by first | (simp [entryFrame, mkF, argsToLocals, Value.category]; done) | rfl
def Q_rmOk_2_3_2 (Z : State) (a1 : Addr) (ki : ClassId) (x0 : Int32) (x1 : Int32) (x2 : Int32) (x3 : Int32) (h0 : Heap) (n0 : Nat) (v : Option Value) (h : Heap) (L : List Loc) : Prop := v = some (.int (1 : Int32)) ∧ Fr n0 L ∧ h = h0
set_option maxRecDepth 65536 in
set_option maxHeartbeats 40000000 in
theorem rmOk_2_3_2 (l : Launch) (Z : State) (a0 : Array Value) (hw : ∀ d ∈ tables_1, d.before a0 Z = true) (ws : List Jvm.Cond) (a1 : Addr) (ki : ClassId) (x0 : Int32) (x1 : Int32) (x2 : Int32) (x3 : Int32) (h0 : Heap) (n0 : Nat) (Z0 : n0 ≤ h0.size) (pV_a1 : Arv Z h0 a1 ki .int (4 : Int32) [(.int x0), (.int x1), (.int x2), (.int x3)] (.int (0 : Int32))) :
    MetFree l (⟨"com/example/spillback/spillback/behaviour/PlanSelectorHighestPinLaw", "ok", "([IIIII)Z"⟩ : MethodName) (head1 (Jvm.Cond.code (⟨"com/example/spillback/spillback/behaviour/PlanSelectorHighestPinLaw", "ok", "([IIIII)Z"⟩ : MethodName) method_3_code 5 (some .boolean) :: ws) ({ frames := 0, cells := 0, slots := 0, locals := 0 } : Room)) (fun a U => a = #[(.ref a1), (.int (2 : Int32)), (.int (3 : Int32)), (.int (2 : Int32)), (.int x2)] ∧ Z.Warmed39 U.vm ∧ U.heap = h0) (fun _ _ _ _ _ => True) (fun _ U o U' => ∃ v L, o = .returned v ∧ Q_rmOk_2_3_2 Z a1 ki x0 x1 x2 x3 h0 n0 v U'.heap L ∧ FrameEnd U o U' L ({ frames := 0, cells := 0, slots := 0, locals := 0 } : Room).cells ({ frames := 0, cells := 0, slots := 0, locals := 0 } : Room).slots) := by
  refine MetFree.of_bodySF (plainFor_of_name pn_2) hisR ?_
  intro p e s m args below meth c s₁ Bd hml0 hP hK
  obtain ⟨rfl, hZ, hh⟩ := hP
  have hx := Bd.exec
  have hby := Bd.bytes
  have hml : c.maxLocals = 5 := hml0
  have hown : s.vm.findClass "com/example/spillback/spillback/behaviour/PlanSelectorHighestPinLaw" = some m.cls := findClass_of_methodNamed Bd.named
  have hnm := (name_of_methodNamed Bd.named Bd.method).1
  have X0 : Stand p l e ({ frames := 0, cells := 0, slots := 0, locals := 0 } : Room) s m #[(.ref a1), (.int (2 : Int32)), (.int (3 : Int32)), (.int (2 : Int32)), (.int x2)] below meth c s₁ [] 0 0 := Stand.of_body Bd
  have e0 : s₁.heap = h0 := by rw [← hh, Bd.state]; rfl
  have N0 := Fr.nil n0
  refine own_enter (ef_rmOk_2_3_2 m a1 ((2 : Int32)) ((3 : Int32)) ((2 : Int32)) x2) ?_
  have hn : ¬ (x2 < x2) := by rw [Int32.lt_iff_toInt_lt]; omega
  refine own_st (fun t_ k_ => XS.iloadN X0.here hx rfl (hb hby d2_0) rfl k_) ?_
  show own_Go p e below s₁ (mkF m 1 #[.val (.ref a1), .val (.int (2 : Int32)), .val (.int (3 : Int32)), .val (.int (2 : Int32)), .val (.int x2)] [(.int (2 : Int32))]) _
  refine own_st (fun t_ k_ => XS.iloadN X0.here hx rfl (hb hby d2_1) rfl k_) ?_
  show own_Go p e below s₁ (mkF m 2 #[.val (.ref a1), .val (.int (2 : Int32)), .val (.int (3 : Int32)), .val (.int (2 : Int32)), .val (.int x2)] [(.int (3 : Int32)), (.int (2 : Int32))]) _
  refine own_st (fun t_ k_ => XS.icmpYes X0.here hx rfl (pc0 := 2) (pc' := 7) rfl (hb hby d2_2) rfl (by decide) (by decide) (by decide) k_) ?_
  show own_Go p e below s₁ (mkF m 7 #[.val (.ref a1), .val (.int (2 : Int32)), .val (.int (3 : Int32)), .val (.int (2 : Int32)), .val (.int x2)] []) _
  refine own_st (fun t_ k_ => XS.aloadN X0.here hx rfl (hb hby d2_7) rfl rfl k_) ?_
  show own_Go p e below s₁ (mkF m 8 #[.val (.ref a1), .val (.int (2 : Int32)), .val (.int (3 : Int32)), .val (.int (2 : Int32)), .val (.int x2)] [(.ref a1)]) _
  refine own_st (fun t_ k_ => XS.iloadN X0.here hx rfl (hb hby d2_8) rfl k_) ?_
  show own_Go p e below s₁ (mkF m 9 #[.val (.ref a1), .val (.int (2 : Int32)), .val (.int (3 : Int32)), .val (.int (2 : Int32)), .val (.int x2)] [(.int (2 : Int32)), (.ref a1)]) _
  obtain ⟨cl1, Ar1, q1, Sz1, Nn1, Hh1, Gg1⟩ := id pV_a1
  have hin1 : ¬ ((2 : Int32) < 0 ∨ cl1.slots.size ≤ ((2 : Int32)).toNatClampNeg) := inb_of Sz1 ⟨by decide, by decide⟩
  have hat1 : cl1.slots[((2 : Int32)).toNatClampNeg]? = some (.int x2) := Has.at Hh1 hin1 rfl
  refine own_st (fun t_ k_ => X0.iaload hx (j := (2 : Int32)) (v := (.int x2)) (by rw [e0]; exact Ar1.1) (State.isArrayOf_alike hZ.alike Ar1.2.1) Ar1.2.2 hin1 hat1 (g := (mkF m 9 #[.val (.ref a1), .val (.int (2 : Int32)), .val (.int (3 : Int32)), .val (.int (2 : Int32)), .val (.int x2)] [(.int (2 : Int32)), (.ref a1)])) rfl rfl (hb hby d2_9) _ k_) ?_
  show own_Go p e below s₁ (mkF m 10 #[.val (.ref a1), .val (.int (2 : Int32)), .val (.int (3 : Int32)), .val (.int (2 : Int32)), .val (.int x2)] [(.int x2)]) _
  refine own_st (fun t_ k_ => XS.iload X0.here hx rfl (hb hby d2_10) rfl k_) ?_
  show own_Go p e below s₁ (mkF m 12 #[.val (.ref a1), .val (.int (2 : Int32)), .val (.int (3 : Int32)), .val (.int (2 : Int32)), .val (.int x2)] [(.int x2), (.int x2)]) _
  refine own_st (fun t_ k_ => XS.icmpYes X0.here hx rfl (pc0 := 12) (pc' := 17) rfl (hb hby d2_12) rfl (flt hn).2.2.2 (by decide) (by decide) k_) ?_
  show own_Go p e below s₁ (mkF m 17 #[.val (.ref a1), .val (.int (2 : Int32)), .val (.int (3 : Int32)), .val (.int (2 : Int32)), .val (.int x2)] []) _
  refine own_st (fun t_ k_ => XS.iloadN X0.here hx rfl (hb hby d2_17) rfl k_) ?_
  show own_Go p e below s₁ (mkF m 18 #[.val (.ref a1), .val (.int (2 : Int32)), .val (.int (3 : Int32)), .val (.int (2 : Int32)), .val (.int x2)] [(.int (2 : Int32))]) _
  refine own_st (fun t_ k_ => XS.iloadN X0.here hx rfl (hb hby d2_18) rfl k_) ?_
  show own_Go p e below s₁ (mkF m 19 #[.val (.ref a1), .val (.int (2 : Int32)), .val (.int (3 : Int32)), .val (.int (2 : Int32)), .val (.int x2)] [(.int (2 : Int32)), (.int (2 : Int32))]) _
  refine own_st (fun t_ k_ => XS.icmpYes X0.here hx rfl (pc0 := 19) (pc' := 32) rfl (hb hby d2_19) rfl (by decide) (by decide) (by decide) k_) ?_
  show own_Go p e below s₁ (mkF m 32 #[.val (.ref a1), .val (.int (2 : Int32)), .val (.int (3 : Int32)), .val (.int (2 : Int32)), .val (.int x2)] []) _
  refine own_st (fun t_ k_ => XS.iconst X0.here hx rfl (hb hby d2_32) k_) ?_
  show own_Go p e below s₁ (mkF m 33 #[.val (.ref a1), .val (.int (2 : Int32)), .val (.int (3 : Int32)), .val (.int (2 : Int32)), .val (.int x2)] [(.int (1 : Int32))]) _
  obtain ⟨fs, hr, hrun, hended, hW, hsame⟩ := X0.leave (v := some (.int (1 : Int32))) (fun h => by rw [Bd.returns] at h; cases h)
  refine own_fin (retN X0 hx (t := .boolean) Bd.returns (by simp) (hb hby d2_33) hr) ⟨hrun, hended, _, _, rfl, ?_, ⟨_, rfl⟩, hW, hsame.mono (by decide) (by decide)⟩
  show Q_rmOk_2_3_2 Z a1 ki x0 x1 x2 x3 h0 n0 _ s₁.heap _
  rw [e0]
  exact ⟨rfl, N0, rfl⟩
theorem ef_rmOk_3_3_2 (m : MethodId) (x0 : Addr) (x1 : Int32) (x2 : Int32) (x3 : Int32) (x4 : Int32) : entryFrame m #[(.ref x0), (.int x1), (.int x2), (.int x3), (.int x4)] 5 = mkF m 0 #[.val (.ref x0), .val (.int x1), .val (.int x2), .val (.int x3), .val (.int x4)] [] := by first | (simp [entryFrame, mkF, argsToLocals, Value.category]; done) | rfl
def Q_rmOk_3_3_2 (Z : State) (a1 : Addr) (ki : ClassId) (x0 : Int32) (x1 : Int32) (x2 : Int32) (x3 : Int32) (h0 : Heap) (n0 : Nat) (v : Option Value) (h : Heap) (L : List Loc) : Prop := v = some (.int (1 : Int32)) ∧ Fr n0 L ∧ h = h0
set_option maxRecDepth 65536 in
set_option maxHeartbeats 40000000 in
theorem rmOk_3_3_2 (l : Launch) (Z : State) (a0 : Array Value) (hw : ∀ d ∈ tables_1, d.before a0 Z = true) (ws : List Jvm.Cond) (a1 : Addr) (ki : ClassId) (x0 : Int32) (x1 : Int32) (x2 : Int32) (x3 : Int32) (h0 : Heap) (n0 : Nat) (Z0 : n0 ≤ h0.size) (pV_a1 : Arv Z h0 a1 ki .int (4 : Int32) [(.int x0), (.int x1), (.int x2), (.int x3)] (.int (0 : Int32))) :
    MetFree l (⟨"com/example/spillback/spillback/behaviour/PlanSelectorHighestPinLaw", "ok", "([IIIII)Z"⟩ : MethodName) (head1 (Jvm.Cond.code (⟨"com/example/spillback/spillback/behaviour/PlanSelectorHighestPinLaw", "ok", "([IIIII)Z"⟩ : MethodName) method_3_code 5 (some .boolean) :: ws) ({ frames := 0, cells := 0, slots := 0, locals := 0 } : Room)) (fun a U => a = #[(.ref a1), (.int (3 : Int32)), (.int (3 : Int32)), (.int (2 : Int32)), (.int x2)] ∧ Z.Warmed39 U.vm ∧ U.heap = h0) (fun _ _ _ _ _ => True) (fun _ U o U' => ∃ v L, o = .returned v ∧ Q_rmOk_3_3_2 Z a1 ki x0 x1 x2 x3 h0 n0 v U'.heap L ∧ FrameEnd U o U' L ({ frames := 0, cells := 0, slots := 0, locals := 0 } : Room).cells ({ frames := 0, cells := 0, slots := 0, locals := 0 } : Room).slots) := by
  refine MetFree.of_bodySF (plainFor_of_name pn_2) hisR ?_
  intro p e s m args below meth c s₁ Bd hml0 hP hK
  obtain ⟨rfl, hZ, hh⟩ := hP
  have hx := Bd.exec
  have hby := Bd.bytes
  have hml : c.maxLocals = 5 := hml0
  have hown : s.vm.findClass "com/example/spillback/spillback/behaviour/PlanSelectorHighestPinLaw" = some m.cls := findClass_of_methodNamed Bd.named
  have hnm := (name_of_methodNamed Bd.named Bd.method).1
  have X0 : Stand p l e ({ frames := 0, cells := 0, slots := 0, locals := 0 } : Room) s m #[(.ref a1), (.int (3 : Int32)), (.int (3 : Int32)), (.int (2 : Int32)), (.int x2)] below meth c s₁ [] 0 0 := Stand.of_body Bd
  have e0 : s₁.heap = h0 := by rw [← hh, Bd.state]; rfl
  have N0 := Fr.nil n0
  refine own_enter (ef_rmOk_3_3_2 m a1 ((3 : Int32)) ((3 : Int32)) ((2 : Int32)) x2) ?_
  skip
  refine own_st (fun t_ k_ => XS.iloadN X0.here hx rfl (hb hby d2_0) rfl k_) ?_
  show own_Go p e below s₁ (mkF m 1 #[.val (.ref a1), .val (.int (3 : Int32)), .val (.int (3 : Int32)), .val (.int (2 : Int32)), .val (.int x2)] [(.int (3 : Int32))]) _
  refine own_st (fun t_ k_ => XS.iloadN X0.here hx rfl (hb hby d2_1) rfl k_) ?_
  show own_Go p e below s₁ (mkF m 2 #[.val (.ref a1), .val (.int (3 : Int32)), .val (.int (3 : Int32)), .val (.int (2 : Int32)), .val (.int x2)] [(.int (3 : Int32)), (.int (3 : Int32))]) _
  refine own_st (fun t_ k_ => XS.icmpNo X0.here hx rfl (hb hby d2_2) rfl (by decide) k_) ?_
  show own_Go p e below s₁ (mkF m 5 #[.val (.ref a1), .val (.int (3 : Int32)), .val (.int (3 : Int32)), .val (.int (2 : Int32)), .val (.int x2)] []) _
  refine own_st (fun t_ k_ => XS.iconst X0.here hx rfl (hb hby d2_5) k_) ?_
  show own_Go p e below s₁ (mkF m 6 #[.val (.ref a1), .val (.int (3 : Int32)), .val (.int (3 : Int32)), .val (.int (2 : Int32)), .val (.int x2)] [(.int (1 : Int32))]) _
  obtain ⟨fs, hr, hrun, hended, hW, hsame⟩ := X0.leave (v := some (.int (1 : Int32))) (fun h => by rw [Bd.returns] at h; cases h)
  refine own_fin (retN X0 hx (t := .boolean) Bd.returns (by simp) (hb hby d2_6) hr) ⟨hrun, hended, _, _, rfl, ?_, ⟨_, rfl⟩, hW, hsame.mono (by decide) (by decide)⟩
  show Q_rmOk_3_3_2 Z a1 ki x0 x1 x2 x3 h0 n0 _ s₁.heap _
  rw [e0]
  exact ⟨rfl, N0, rfl⟩
theorem ef_rmLaw3 (m : MethodId) (x0 : Int32) (x1 : Int32) (x2 : Int32) (x3 : Int32) (x4 : Int32) : entryFrame m #[(.int x0), (.int x1), (.int x2), (.int x3), (.int x4)] maxLocals = mkF m 0 #[.val (.int x0), .val (.int x1), .val (.int x2), .val (.int x3), .val (.int x4), .unset, .unset, .unset, .unset, .unset] [] := by first | (simp [entryFrame, mkF, argsToLocals, Value.category, maxLocals]; done) | rfl
def Q_rmLaw3 (Z : State) (p0 : Int32) (x0 : Int32) (x1 : Int32) (x2 : Int32) (x3 : Int32) (h0 : Heap) (n0 : Nat) (v : Option Value) (h : Heap) (L : List Loc) : Prop := v = some (.int (1 : Int32)) ∧ Fr n0 L ∧ Keep h0 h []
set_option maxRecDepth 65536 in
set_option maxHeartbeats 40000000 in
theorem rmLaw3 (l : Launch) (Z : State) (a0 : Array Value) (hw : ∀ d ∈ tables_1, d.before a0 Z = true) (ws : List Jvm.Cond) (p0 : Int32) (x0 : Int32) (x1 : Int32) (x2 : Int32) (x3 : Int32) (h0 : Heap) (n0 : Nat) (Z0 : n0 ≤ h0.size) (hn : (p0 &&& (3 : Int32) = (2 : Int32))) :
    MetFree l x (head1 (Jvm.Cond.code x code maxLocals ret :: ws) room_1) (fun a U => a = #[(.int p0), (.int x0), (.int x1), (.int x2), (.int x3)] ∧ Z.Warmed39 U.vm ∧ U.heap = h0) (fun _ _ _ _ _ => True) (fun _ U o U' => ∃ v L, o = .returned v ∧ Q_rmLaw3 Z p0 x0 x1 x2 x3 h0 n0 v U'.heap L ∧ FrameEnd U o U' L 16 128) := by
  refine MetFree.of_bodySF (plainFor_of_name pn_0) hisR ?_
  intro p e s m args below meth c s₁ Bd hml0 hP hK
  obtain ⟨rfl, hZ, hh⟩ := hP
  have hx := Bd.exec
  have hby := Bd.bytes
  have hml : c.maxLocals = 10 := hml0
  have hown : s.vm.findClass "com/example/spillback/spillback/behaviour/PlanSelectorHighestPinLaw" = some m.cls := findClass_of_methodNamed Bd.named
  have hnm := (name_of_methodNamed Bd.named Bd.method).1
  have X0 : Stand p l e room_1 s m #[(.int p0), (.int x0), (.int x1), (.int x2), (.int x3)] below meth c s₁ [] 0 0 := Stand.of_body Bd
  have e0 : s₁.heap = h0 := by rw [← hh, Bd.state]; rfl
  have N0 := Fr.nil n0
  refine own_enter (ef_rmLaw3 m p0 x0 x1 x2 x3) ?_
  refine own_st (fun t_ k_ => XS.iloadN X0.here hx rfl (hb hby at_0) rfl k_) ?_
  show own_Go p e below s₁ (mkF m 1 #[.val (.int p0), .val (.int x0), .val (.int x1), .val (.int x2), .val (.int x3), .unset, .unset, .unset, .unset, .unset] [(.int p0)]) _
  refine own_st (fun t_ k_ => XS.iconst X0.here hx rfl (hb hby at_1) k_) ?_
  show own_Go p e below s₁ (mkF m 2 #[.val (.int p0), .val (.int x0), .val (.int x1), .val (.int x2), .val (.int x3), .unset, .unset, .unset, .unset, .unset] [(.int (3 : Int32)), (.int p0)]) _
  refine own_st (fun t_ k_ => XS.iand X0.here hx rfl (hb hby at_2) rfl k_) ?_
  show own_Go p e below s₁ (mkF m 3 #[.val (.int p0), .val (.int x0), .val (.int x1), .val (.int x2), .val (.int x3), .unset, .unset, .unset, .unset, .unset] [(.int (p0 &&& (3 : Int32)))]) _
  rw [hn]
  show own_Go p e below s₁ (mkF m 3 #[.val (.int p0), .val (.int x0), .val (.int x1), .val (.int x2), .val (.int x3), .unset, .unset, .unset, .unset, .unset] [(.int (2 : Int32))]) _
  refine own_st (fun t_ k_ => XS.iconst X0.here hx rfl (hb hby at_3) k_) ?_
  show own_Go p e below s₁ (mkF m 4 #[.val (.int p0), .val (.int x0), .val (.int x1), .val (.int x2), .val (.int x3), .unset, .unset, .unset, .unset, .unset] [(.int (1 : Int32)), (.int (2 : Int32))]) _
  refine own_st (fun t_ k_ => XS.iadd X0.here hx rfl (hb hby at_4) rfl k_) ?_
  show own_Go p e below s₁ (mkF m 5 #[.val (.int p0), .val (.int x0), .val (.int x1), .val (.int x2), .val (.int x3), .unset, .unset, .unset, .unset, .unset] [(.int (3 : Int32))]) _
  refine own_st (fun t_ k_ => XS.istore X0.here hx rfl (hb hby at_5) rfl (l' := #[.val (.int p0), .val (.int x0), .val (.int x1), .val (.int x2), .val (.int x3), .val (.int (3 : Int32)), .unset, .unset, .unset, .unset]) rfl k_) ?_
  show own_Go p e below s₁ (mkF m 7 #[.val (.int p0), .val (.int x0), .val (.int x1), .val (.int x2), .val (.int x3), .val (.int (3 : Int32)), .unset, .unset, .unset, .unset] []) _
  refine own_st (fun t_ k_ => XS.iconst X0.here hx rfl (hb hby at_7) k_) ?_
  show own_Go p e below s₁ (mkF m 8 #[.val (.int p0), .val (.int x0), .val (.int x1), .val (.int x2), .val (.int x3), .val (.int (3 : Int32)), .unset, .unset, .unset, .unset] [(.int (4 : Int32))]) _
  obtain ⟨T1, h1, k1, X1, e1, E1, A1, st1⟩ := newP X0 hx hZ (hw _ (List.mem_of_getElem? (i := 0) rfl)) e0 (g := (mkF m 8 #[.val (.int p0), .val (.int x0), .val (.int x1), .val (.int x2), .val (.int x3), .val (.int (3 : Int32)), .unset, .unset, .unset, .unset] [(.int (4 : Int32))])) rfl (hb hby at_8) rfl (by decide) (cap := 4) (by decide) (by decide) (by decide) (by decide)
  obtain ⟨b1, g1⟩ : ∃ z, z = h0.size := ⟨_, rfl⟩
  rw [← g1] at A1 st1
  have G1 : n0 ≤ b1 := Nat.le_trans Z0 (Nat.le_of_eq g1.symm)
  have B1 : h0.size ≤ b1 := Nat.le_trans (Keep.refl h0 []).1 (Nat.le_of_eq g1.symm)
  have K2 : Keep h0 h1 [] := (Keep.refl h0 []).ext E1
  have V1 : Arv Z h1 b1 k1 .int (4 : Int32) [(.int (0 : Int32)), (.int (0 : Int32)), (.int (0 : Int32)), (.int (0 : Int32))] (.int (0 : Int32)) := (Arv.new A1 (by decide)).pad (pad_rep [] (.int (0 : Int32)) 4)
  refine own_st st1 ?_
  show own_Go p e below T1 (mkF m 10 #[.val (.int p0), .val (.int x0), .val (.int x1), .val (.int x2), .val (.int x3), .val (.int (3 : Int32)), .unset, .unset, .unset, .unset] [(.ref b1)]) _
  refine own_st (fun t_ k_ => XS.astore X1.here hx rfl (hb hby at_10) rfl rfl (l' := #[.val (.int p0), .val (.int x0), .val (.int x1), .val (.int x2), .val (.int x3), .val (.int (3 : Int32)), .val (.ref b1), .unset, .unset, .unset]) rfl k_) ?_
  show own_Go p e below T1 (mkF m 12 #[.val (.int p0), .val (.int x0), .val (.int x1), .val (.int x2), .val (.int x3), .val (.int (3 : Int32)), .val (.ref b1), .unset, .unset, .unset] []) _
  refine own_st (fun t_ k_ => XS.aload X1.here hx rfl (hb hby at_12) rfl rfl k_) ?_
  show own_Go p e below T1 (mkF m 14 #[.val (.int p0), .val (.int x0), .val (.int x1), .val (.int x2), .val (.int x3), .val (.int (3 : Int32)), .val (.ref b1), .unset, .unset, .unset] [(.ref b1)]) _
  refine own_st (fun t_ k_ => XS.iconst X1.here hx rfl (hb hby at_14) k_) ?_
  show own_Go p e below T1 (mkF m 15 #[.val (.int p0), .val (.int x0), .val (.int x1), .val (.int x2), .val (.int x3), .val (.int (3 : Int32)), .val (.ref b1), .unset, .unset, .unset] [(.int (0 : Int32)), (.ref b1)]) _
  refine own_st (fun t_ k_ => XS.iloadN X1.here hx rfl (hb hby at_15) rfl k_) ?_
  show own_Go p e below T1 (mkF m 16 #[.val (.int p0), .val (.int x0), .val (.int x1), .val (.int x2), .val (.int x3), .val (.int (3 : Int32)), .val (.ref b1), .unset, .unset, .unset] [(.int x0), (.int (0 : Int32)), (.ref b1)]) _
  obtain ⟨cl3, Ar3, q3, Sz3, Nn3, Hh3, Gg3⟩ := id V1
  have hin3 : ¬ ((0 : Int32) < 0 ∨ cl3.slots.size ≤ ((0 : Int32)).toNatClampNeg) := inb_of Sz3 ⟨by decide, by decide⟩
  obtain ⟨T4, h4, X4, e4, W4, st4⟩ := stI X1 hx hZ e1 Ar3 (j := (0 : Int32)) hin3 (g := (mkF m 16 #[.val (.int p0), .val (.int x0), .val (.int x1), .val (.int x2), .val (.int x3), .val (.int (3 : Int32)), .val (.ref b1), .unset, .unset, .unset] [(.int x0), (.int (0 : Int32)), (.ref b1)])) rfl rfl (hb hby at_16)
  have V4 : Arv Z h4 b1 k1 .int (4 : Int32) [(.int x0), (.int (0 : Int32)), (.int (0 : Int32)), (.int (0 : Int32))] (.int (0 : Int32)) := Arv.set Ar3 q3 Sz3 Nn3 Hh3 Gg3 rfl W4 0 rfl (Nat.le_of_ble_eq_true rfl)
  have K5 : Keep h0 h4 [] := K2.wr W4 (Or.inr B1)
  have N4 := Fr.snoc X4 N0 G1
  refine own_st st4 ?_
  show own_Go p e below T4 (mkF m 17 #[.val (.int p0), .val (.int x0), .val (.int x1), .val (.int x2), .val (.int x3), .val (.int (3 : Int32)), .val (.ref b1), .unset, .unset, .unset] []) _
  refine own_st (fun t_ k_ => XS.aload X4.here hx rfl (hb hby at_17) rfl rfl k_) ?_
  show own_Go p e below T4 (mkF m 19 #[.val (.int p0), .val (.int x0), .val (.int x1), .val (.int x2), .val (.int x3), .val (.int (3 : Int32)), .val (.ref b1), .unset, .unset, .unset] [(.ref b1)]) _
  refine own_st (fun t_ k_ => XS.iconst X4.here hx rfl (hb hby at_19) k_) ?_
  show own_Go p e below T4 (mkF m 20 #[.val (.int p0), .val (.int x0), .val (.int x1), .val (.int x2), .val (.int x3), .val (.int (3 : Int32)), .val (.ref b1), .unset, .unset, .unset] [(.int (1 : Int32)), (.ref b1)]) _
  refine own_st (fun t_ k_ => XS.iloadN X4.here hx rfl (hb hby at_20) rfl k_) ?_
  show own_Go p e below T4 (mkF m 21 #[.val (.int p0), .val (.int x0), .val (.int x1), .val (.int x2), .val (.int x3), .val (.int (3 : Int32)), .val (.ref b1), .unset, .unset, .unset] [(.int x1), (.int (1 : Int32)), (.ref b1)]) _
  obtain ⟨cl6, Ar6, q6, Sz6, Nn6, Hh6, Gg6⟩ := id V4
  have hin6 : ¬ ((1 : Int32) < 0 ∨ cl6.slots.size ≤ ((1 : Int32)).toNatClampNeg) := inb_of Sz6 ⟨by decide, by decide⟩
  obtain ⟨T7, h7, X7, e7, W7, st7⟩ := stI X4 hx hZ e4 Ar6 (j := (1 : Int32)) hin6 (g := (mkF m 21 #[.val (.int p0), .val (.int x0), .val (.int x1), .val (.int x2), .val (.int x3), .val (.int (3 : Int32)), .val (.ref b1), .unset, .unset, .unset] [(.int x1), (.int (1 : Int32)), (.ref b1)])) rfl rfl (hb hby at_21)
  have V7 : Arv Z h7 b1 k1 .int (4 : Int32) [(.int x0), (.int x1), (.int (0 : Int32)), (.int (0 : Int32))] (.int (0 : Int32)) := Arv.set Ar6 q6 Sz6 Nn6 Hh6 Gg6 rfl W7 1 rfl (Nat.le_of_ble_eq_true rfl)
  have K8 : Keep h0 h7 [] := K5.wr W7 (Or.inr B1)
  have N7 := Fr.snoc X7 N4 G1
  refine own_st st7 ?_
  show own_Go p e below T7 (mkF m 22 #[.val (.int p0), .val (.int x0), .val (.int x1), .val (.int x2), .val (.int x3), .val (.int (3 : Int32)), .val (.ref b1), .unset, .unset, .unset] []) _
  refine own_st (fun t_ k_ => XS.aload X7.here hx rfl (hb hby at_22) rfl rfl k_) ?_
  show own_Go p e below T7 (mkF m 24 #[.val (.int p0), .val (.int x0), .val (.int x1), .val (.int x2), .val (.int x3), .val (.int (3 : Int32)), .val (.ref b1), .unset, .unset, .unset] [(.ref b1)]) _
  refine own_st (fun t_ k_ => XS.iconst X7.here hx rfl (hb hby at_24) k_) ?_
  show own_Go p e below T7 (mkF m 25 #[.val (.int p0), .val (.int x0), .val (.int x1), .val (.int x2), .val (.int x3), .val (.int (3 : Int32)), .val (.ref b1), .unset, .unset, .unset] [(.int (2 : Int32)), (.ref b1)]) _
  refine own_st (fun t_ k_ => XS.iloadN X7.here hx rfl (hb hby at_25) rfl k_) ?_
  show own_Go p e below T7 (mkF m 26 #[.val (.int p0), .val (.int x0), .val (.int x1), .val (.int x2), .val (.int x3), .val (.int (3 : Int32)), .val (.ref b1), .unset, .unset, .unset] [(.int x2), (.int (2 : Int32)), (.ref b1)]) _
  obtain ⟨cl9, Ar9, q9, Sz9, Nn9, Hh9, Gg9⟩ := id V7
  have hin9 : ¬ ((2 : Int32) < 0 ∨ cl9.slots.size ≤ ((2 : Int32)).toNatClampNeg) := inb_of Sz9 ⟨by decide, by decide⟩
  obtain ⟨T10, h10, X10, e10, W10, st10⟩ := stI X7 hx hZ e7 Ar9 (j := (2 : Int32)) hin9 (g := (mkF m 26 #[.val (.int p0), .val (.int x0), .val (.int x1), .val (.int x2), .val (.int x3), .val (.int (3 : Int32)), .val (.ref b1), .unset, .unset, .unset] [(.int x2), (.int (2 : Int32)), (.ref b1)])) rfl rfl (hb hby at_26)
  have V10 : Arv Z h10 b1 k1 .int (4 : Int32) [(.int x0), (.int x1), (.int x2), (.int (0 : Int32))] (.int (0 : Int32)) := Arv.set Ar9 q9 Sz9 Nn9 Hh9 Gg9 rfl W10 2 rfl (Nat.le_of_ble_eq_true rfl)
  have K11 : Keep h0 h10 [] := K8.wr W10 (Or.inr B1)
  have N10 := Fr.snoc X10 N7 G1
  refine own_st st10 ?_
  show own_Go p e below T10 (mkF m 27 #[.val (.int p0), .val (.int x0), .val (.int x1), .val (.int x2), .val (.int x3), .val (.int (3 : Int32)), .val (.ref b1), .unset, .unset, .unset] []) _
  refine own_st (fun t_ k_ => XS.aload X10.here hx rfl (hb hby at_27) rfl rfl k_) ?_
  show own_Go p e below T10 (mkF m 29 #[.val (.int p0), .val (.int x0), .val (.int x1), .val (.int x2), .val (.int x3), .val (.int (3 : Int32)), .val (.ref b1), .unset, .unset, .unset] [(.ref b1)]) _
  refine own_st (fun t_ k_ => XS.iconst X10.here hx rfl (hb hby at_29) k_) ?_
  show own_Go p e below T10 (mkF m 30 #[.val (.int p0), .val (.int x0), .val (.int x1), .val (.int x2), .val (.int x3), .val (.int (3 : Int32)), .val (.ref b1), .unset, .unset, .unset] [(.int (3 : Int32)), (.ref b1)]) _
  refine own_st (fun t_ k_ => XS.iload X10.here hx rfl (hb hby at_30) rfl k_) ?_
  show own_Go p e below T10 (mkF m 32 #[.val (.int p0), .val (.int x0), .val (.int x1), .val (.int x2), .val (.int x3), .val (.int (3 : Int32)), .val (.ref b1), .unset, .unset, .unset] [(.int x3), (.int (3 : Int32)), (.ref b1)]) _
  obtain ⟨cl12, Ar12, q12, Sz12, Nn12, Hh12, Gg12⟩ := id V10
  have hin12 : ¬ ((3 : Int32) < 0 ∨ cl12.slots.size ≤ ((3 : Int32)).toNatClampNeg) := inb_of Sz12 ⟨by decide, by decide⟩
  obtain ⟨T13, h13, X13, e13, W13, st13⟩ := stI X10 hx hZ e10 Ar12 (j := (3 : Int32)) hin12 (g := (mkF m 32 #[.val (.int p0), .val (.int x0), .val (.int x1), .val (.int x2), .val (.int x3), .val (.int (3 : Int32)), .val (.ref b1), .unset, .unset, .unset] [(.int x3), (.int (3 : Int32)), (.ref b1)])) rfl rfl (hb hby at_32)
  have V13 : Arv Z h13 b1 k1 .int (4 : Int32) [(.int x0), (.int x1), (.int x2), (.int x3)] (.int (0 : Int32)) := Arv.set Ar12 q12 Sz12 Nn12 Hh12 Gg12 rfl W13 3 rfl (Nat.le_of_ble_eq_true rfl)
  have K14 : Keep h0 h13 [] := K11.wr W13 (Or.inr B1)
  have N13 := Fr.snoc X13 N10 G1
  refine own_st st13 ?_
  show own_Go p e below T13 (mkF m 33 #[.val (.int p0), .val (.int x0), .val (.int x1), .val (.int x2), .val (.int x3), .val (.int (3 : Int32)), .val (.ref b1), .unset, .unset, .unset] []) _
  refine own_st (fun t_ k_ => XS.iload X13.here hx rfl (hb hby at_33) rfl k_) ?_
  show own_Go p e below T13 (mkF m 35 #[.val (.int p0), .val (.int x0), .val (.int x1), .val (.int x2), .val (.int x3), .val (.int (3 : Int32)), .val (.ref b1), .unset, .unset, .unset] [(.int (3 : Int32))]) _
  have f15 := (Nat.le_trans (Nat.le_trans (Nat.le_trans (Nat.le_trans (Nat.le_trans Z0 E1.1) (Keep.of_wr W4).1) (Keep.of_wr W7).1) (Keep.of_wr W10).1) (Keep.of_wr W13).1)
  obtain ⟨T16, h16, k16, X16, e16, E16, A16, st16⟩ := newP X13 hx hZ (hw _ (List.mem_of_getElem? (i := 1) rfl)) e13 (g := (mkF m 35 #[.val (.int p0), .val (.int x0), .val (.int x1), .val (.int x2), .val (.int x3), .val (.int (3 : Int32)), .val (.ref b1), .unset, .unset, .unset] [(.int (3 : Int32))])) rfl (hb hby at_35) rfl (by decide) (cap := 3) (by decide) (by decide) (by decide) (by decide)
  obtain ⟨b16, g16⟩ : ∃ z, z = h13.size := ⟨_, rfl⟩
  rw [← g16] at A16 st16
  have G16 : n0 ≤ b16 := Nat.le_trans f15 (Nat.le_of_eq g16.symm)
  have B16 : h0.size ≤ b16 := Nat.le_trans K14.1 (Nat.le_of_eq g16.symm)
  have K17 : Keep h0 h16 [] := K14.ext E16
  have V16 : Arv Z h16 b16 k16 .double (3 : Int32) [(.double (0 : UInt64)), (.double (0 : UInt64)), (.double (0 : UInt64))] (.double (0 : UInt64)) := (Arv.new A16 (by decide)).pad (pad_rep [] (.double (0 : UInt64)) 3)
  refine own_st st16 ?_
  show own_Go p e below T16 (mkF m 37 #[.val (.int p0), .val (.int x0), .val (.int x1), .val (.int x2), .val (.int x3), .val (.int (3 : Int32)), .val (.ref b1), .unset, .unset, .unset] [(.ref b16)]) _
  refine own_st (fun t_ k_ => XS.astore X16.here hx rfl (hb hby at_37) rfl rfl (l' := #[.val (.int p0), .val (.int x0), .val (.int x1), .val (.int x2), .val (.int x3), .val (.int (3 : Int32)), .val (.ref b1), .val (.ref b16), .unset, .unset]) rfl k_) ?_
  show own_Go p e below T16 (mkF m 39 #[.val (.int p0), .val (.int x0), .val (.int x1), .val (.int x2), .val (.int x3), .val (.int (3 : Int32)), .val (.ref b1), .val (.ref b16), .unset, .unset] []) _
  refine own_st (fun t_ k_ => XS.aload X16.here hx rfl (hb hby at_39) rfl rfl k_) ?_
  show own_Go p e below T16 (mkF m 41 #[.val (.int p0), .val (.int x0), .val (.int x1), .val (.int x2), .val (.int x3), .val (.int (3 : Int32)), .val (.ref b1), .val (.ref b16), .unset, .unset] [(.ref b16)]) _
  refine own_st (fun t_ k_ => XS.iconst X16.here hx rfl (hb hby at_41) k_) ?_
  show own_Go p e below T16 (mkF m 42 #[.val (.int p0), .val (.int x0), .val (.int x1), .val (.int x2), .val (.int x3), .val (.int (3 : Int32)), .val (.ref b1), .val (.ref b16), .unset, .unset] [(.int (0 : Int32)), (.ref b16)]) _
  refine own_st (fun t_ k_ => XS.iloadN X16.here hx rfl (hb hby at_42) rfl k_) ?_
  show own_Go p e below T16 (mkF m 43 #[.val (.int p0), .val (.int x0), .val (.int x1), .val (.int x2), .val (.int x3), .val (.int (3 : Int32)), .val (.ref b1), .val (.ref b16), .unset, .unset] [(.int x0), (.int (0 : Int32)), (.ref b16)]) _
  refine own_st (fun t_ k_ => XS.i2dS X16.here hx rfl (hb hby at_43) rfl rfl k_) ?_
  show own_Go p e below T16 (mkF m 44 #[.val (.int p0), .val (.int x0), .val (.int x1), .val (.int x2), .val (.int x3), .val (.int (3 : Int32)), .val (.ref b1), .val (.ref b16), .unset, .unset] [(.double (FP.i2d x0)), (.int (0 : Int32)), (.ref b16)]) _
  obtain ⟨cl18, Ar18, q18, Sz18, Nn18, Hh18, Gg18⟩ := id V16
  have hin18 : ¬ ((0 : Int32) < 0 ∨ cl18.slots.size ≤ ((0 : Int32)).toNatClampNeg) := inb_of Sz18 ⟨by decide, by decide⟩
  obtain ⟨T19, h19, X19, e19, W19, st19⟩ := stD X16 hx hZ e16 Ar18 (j := (0 : Int32)) hin18 (g := (mkF m 44 #[.val (.int p0), .val (.int x0), .val (.int x1), .val (.int x2), .val (.int x3), .val (.int (3 : Int32)), .val (.ref b1), .val (.ref b16), .unset, .unset] [(.double (FP.i2d x0)), (.int (0 : Int32)), (.ref b16)])) rfl rfl (hb hby at_44)
  have V19 : Arv Z h19 b16 k16 .double (3 : Int32) [(.double (FP.i2d x0)), (.double (0 : UInt64)), (.double (0 : UInt64))] (.double (0 : UInt64)) := Arv.set Ar18 q18 Sz18 Nn18 Hh18 Gg18 rfl W19 0 rfl (Nat.le_of_ble_eq_true rfl)
  have K20 : Keep h0 h19 [] := K17.wr W19 (Or.inr B16)
  have N19 := Fr.snoc X19 N13 G16
  refine own_st st19 ?_
  show own_Go p e below T19 (mkF m 45 #[.val (.int p0), .val (.int x0), .val (.int x1), .val (.int x2), .val (.int x3), .val (.int (3 : Int32)), .val (.ref b1), .val (.ref b16), .unset, .unset] []) _
  refine own_st (fun t_ k_ => XS.iload X19.here hx rfl (hb hby at_45) rfl k_) ?_
  show own_Go p e below T19 (mkF m 47 #[.val (.int p0), .val (.int x0), .val (.int x1), .val (.int x2), .val (.int x3), .val (.int (3 : Int32)), .val (.ref b1), .val (.ref b16), .unset, .unset] [(.int (3 : Int32))]) _
  refine own_st (fun t_ k_ => XS.iconst X19.here hx rfl (hb hby at_47) k_) ?_
  show own_Go p e below T19 (mkF m 48 #[.val (.int p0), .val (.int x0), .val (.int x1), .val (.int x2), .val (.int x3), .val (.int (3 : Int32)), .val (.ref b1), .val (.ref b16), .unset, .unset] [(.int (1 : Int32)), (.int (3 : Int32))]) _
  refine own_st (fun t_ k_ => XS.icmpNo X19.here hx rfl (hb hby at_48) rfl (by decide) k_) ?_
  show own_Go p e below T19 (mkF m 51 #[.val (.int p0), .val (.int x0), .val (.int x1), .val (.int x2), .val (.int x3), .val (.int (3 : Int32)), .val (.ref b1), .val (.ref b16), .unset, .unset] []) _
  refine own_st (fun t_ k_ => XS.aload X19.here hx rfl (hb hby at_51) rfl rfl k_) ?_
  show own_Go p e below T19 (mkF m 53 #[.val (.int p0), .val (.int x0), .val (.int x1), .val (.int x2), .val (.int x3), .val (.int (3 : Int32)), .val (.ref b1), .val (.ref b16), .unset, .unset] [(.ref b16)]) _
  refine own_st (fun t_ k_ => XS.iconst X19.here hx rfl (hb hby at_53) k_) ?_
  show own_Go p e below T19 (mkF m 54 #[.val (.int p0), .val (.int x0), .val (.int x1), .val (.int x2), .val (.int x3), .val (.int (3 : Int32)), .val (.ref b1), .val (.ref b16), .unset, .unset] [(.int (1 : Int32)), (.ref b16)]) _
  refine own_st (fun t_ k_ => XS.iloadN X19.here hx rfl (hb hby at_54) rfl k_) ?_
  show own_Go p e below T19 (mkF m 55 #[.val (.int p0), .val (.int x0), .val (.int x1), .val (.int x2), .val (.int x3), .val (.int (3 : Int32)), .val (.ref b1), .val (.ref b16), .unset, .unset] [(.int x1), (.int (1 : Int32)), (.ref b16)]) _
  refine own_st (fun t_ k_ => XS.i2dS X19.here hx rfl (hb hby at_55) rfl rfl k_) ?_
  show own_Go p e below T19 (mkF m 56 #[.val (.int p0), .val (.int x0), .val (.int x1), .val (.int x2), .val (.int x3), .val (.int (3 : Int32)), .val (.ref b1), .val (.ref b16), .unset, .unset] [(.double (FP.i2d x1)), (.int (1 : Int32)), (.ref b16)]) _
  obtain ⟨cl21, Ar21, q21, Sz21, Nn21, Hh21, Gg21⟩ := id V19
  have hin21 : ¬ ((1 : Int32) < 0 ∨ cl21.slots.size ≤ ((1 : Int32)).toNatClampNeg) := inb_of Sz21 ⟨by decide, by decide⟩
  obtain ⟨T22, h22, X22, e22, W22, st22⟩ := stD X19 hx hZ e19 Ar21 (j := (1 : Int32)) hin21 (g := (mkF m 56 #[.val (.int p0), .val (.int x0), .val (.int x1), .val (.int x2), .val (.int x3), .val (.int (3 : Int32)), .val (.ref b1), .val (.ref b16), .unset, .unset] [(.double (FP.i2d x1)), (.int (1 : Int32)), (.ref b16)])) rfl rfl (hb hby at_56)
  have V22 : Arv Z h22 b16 k16 .double (3 : Int32) [(.double (FP.i2d x0)), (.double (FP.i2d x1)), (.double (0 : UInt64))] (.double (0 : UInt64)) := Arv.set Ar21 q21 Sz21 Nn21 Hh21 Gg21 rfl W22 1 rfl (Nat.le_of_ble_eq_true rfl)
  have K23 : Keep h0 h22 [] := K20.wr W22 (Or.inr B16)
  have N22 := Fr.snoc X22 N19 G16
  refine own_st st22 ?_
  show own_Go p e below T22 (mkF m 57 #[.val (.int p0), .val (.int x0), .val (.int x1), .val (.int x2), .val (.int x3), .val (.int (3 : Int32)), .val (.ref b1), .val (.ref b16), .unset, .unset] []) _
  refine own_st (fun t_ k_ => XS.iload X22.here hx rfl (hb hby at_57) rfl k_) ?_
  show own_Go p e below T22 (mkF m 59 #[.val (.int p0), .val (.int x0), .val (.int x1), .val (.int x2), .val (.int x3), .val (.int (3 : Int32)), .val (.ref b1), .val (.ref b16), .unset, .unset] [(.int (3 : Int32))]) _
  refine own_st (fun t_ k_ => XS.iconst X22.here hx rfl (hb hby at_59) k_) ?_
  show own_Go p e below T22 (mkF m 60 #[.val (.int p0), .val (.int x0), .val (.int x1), .val (.int x2), .val (.int x3), .val (.int (3 : Int32)), .val (.ref b1), .val (.ref b16), .unset, .unset] [(.int (2 : Int32)), (.int (3 : Int32))]) _
  refine own_st (fun t_ k_ => XS.icmpNo X22.here hx rfl (hb hby at_60) rfl (by decide) k_) ?_
  show own_Go p e below T22 (mkF m 63 #[.val (.int p0), .val (.int x0), .val (.int x1), .val (.int x2), .val (.int x3), .val (.int (3 : Int32)), .val (.ref b1), .val (.ref b16), .unset, .unset] []) _
  refine own_st (fun t_ k_ => XS.aload X22.here hx rfl (hb hby at_63) rfl rfl k_) ?_
  show own_Go p e below T22 (mkF m 65 #[.val (.int p0), .val (.int x0), .val (.int x1), .val (.int x2), .val (.int x3), .val (.int (3 : Int32)), .val (.ref b1), .val (.ref b16), .unset, .unset] [(.ref b16)]) _
  refine own_st (fun t_ k_ => XS.iconst X22.here hx rfl (hb hby at_65) k_) ?_
  show own_Go p e below T22 (mkF m 66 #[.val (.int p0), .val (.int x0), .val (.int x1), .val (.int x2), .val (.int x3), .val (.int (3 : Int32)), .val (.ref b1), .val (.ref b16), .unset, .unset] [(.int (2 : Int32)), (.ref b16)]) _
  refine own_st (fun t_ k_ => XS.iloadN X22.here hx rfl (hb hby at_66) rfl k_) ?_
  show own_Go p e below T22 (mkF m 67 #[.val (.int p0), .val (.int x0), .val (.int x1), .val (.int x2), .val (.int x3), .val (.int (3 : Int32)), .val (.ref b1), .val (.ref b16), .unset, .unset] [(.int x2), (.int (2 : Int32)), (.ref b16)]) _
  refine own_st (fun t_ k_ => XS.i2dS X22.here hx rfl (hb hby at_67) rfl rfl k_) ?_
  show own_Go p e below T22 (mkF m 68 #[.val (.int p0), .val (.int x0), .val (.int x1), .val (.int x2), .val (.int x3), .val (.int (3 : Int32)), .val (.ref b1), .val (.ref b16), .unset, .unset] [(.double (FP.i2d x2)), (.int (2 : Int32)), (.ref b16)]) _
  obtain ⟨cl24, Ar24, q24, Sz24, Nn24, Hh24, Gg24⟩ := id V22
  have hin24 : ¬ ((2 : Int32) < 0 ∨ cl24.slots.size ≤ ((2 : Int32)).toNatClampNeg) := inb_of Sz24 ⟨by decide, by decide⟩
  obtain ⟨T25, h25, X25, e25, W25, st25⟩ := stD X22 hx hZ e22 Ar24 (j := (2 : Int32)) hin24 (g := (mkF m 68 #[.val (.int p0), .val (.int x0), .val (.int x1), .val (.int x2), .val (.int x3), .val (.int (3 : Int32)), .val (.ref b1), .val (.ref b16), .unset, .unset] [(.double (FP.i2d x2)), (.int (2 : Int32)), (.ref b16)])) rfl rfl (hb hby at_68)
  have V25 : Arv Z h25 b16 k16 .double (3 : Int32) [(.double (FP.i2d x0)), (.double (FP.i2d x1)), (.double (FP.i2d x2))] (.double (0 : UInt64)) := Arv.set Ar24 q24 Sz24 Nn24 Hh24 Gg24 rfl W25 2 rfl (Nat.le_of_ble_eq_true rfl)
  have K26 : Keep h0 h25 [] := K23.wr W25 (Or.inr B16)
  have N25 := Fr.snoc X25 N22 G16
  refine own_st st25 ?_
  show own_Go p e below T25 (mkF m 69 #[.val (.int p0), .val (.int x0), .val (.int x1), .val (.int x2), .val (.int x3), .val (.int (3 : Int32)), .val (.ref b1), .val (.ref b16), .unset, .unset] []) _
  refine own_st (fun t_ k_ => XS.iload X25.here hx rfl (hb hby at_69) rfl k_) ?_
  show own_Go p e below T25 (mkF m 71 #[.val (.int p0), .val (.int x0), .val (.int x1), .val (.int x2), .val (.int x3), .val (.int (3 : Int32)), .val (.ref b1), .val (.ref b16), .unset, .unset] [(.int (3 : Int32))]) _
  refine own_st (fun t_ k_ => XS.iconst X25.here hx rfl (hb hby at_71) k_) ?_
  show own_Go p e below T25 (mkF m 72 #[.val (.int p0), .val (.int x0), .val (.int x1), .val (.int x2), .val (.int x3), .val (.int (3 : Int32)), .val (.ref b1), .val (.ref b16), .unset, .unset] [(.int (3 : Int32)), (.int (3 : Int32))]) _
  refine own_st (fun t_ k_ => XS.icmpYes X25.here hx rfl (pc0 := 72) (pc' := 82) rfl (hb hby at_72) rfl (by decide) (by decide) (by decide) k_) ?_
  show own_Go p e below T25 (mkF m 82 #[.val (.int p0), .val (.int x0), .val (.int x1), .val (.int x2), .val (.int x3), .val (.int (3 : Int32)), .val (.ref b1), .val (.ref b16), .unset, .unset] []) _
  refine own_st (fun t_ k_ => XS.aload X25.here hx rfl (hb hby at_82) rfl rfl k_) ?_
  show own_Go p e below T25 (mkF m 84 #[.val (.int p0), .val (.int x0), .val (.int x1), .val (.int x2), .val (.int x3), .val (.int (3 : Int32)), .val (.ref b1), .val (.ref b16), .unset, .unset] [(.ref b16)]) _
  have f27 := (Nat.le_trans (Nat.le_trans (Nat.le_trans (Nat.le_trans f15 E16.1) (Keep.of_wr W19).1) (Keep.of_wr W22).1) (Keep.of_wr W25).1)
  obtain ⟨_, _, ⟨T28, L28, k28, n28⟩, -, X28, ⟨Lc28, hQ28, l28, y28, z28⟩, st28⟩ := Jvm.LawKit.callS X25 hx (y := (⟨"com/example/spillback/spillback/behaviour/PlanSelector", "highest", "([D)I"⟩ : MethodName)) hown (mvT hZ (hw _ (List.mem_of_getElem? (i := 2) rfl))) (mvT hZ (hw _ (List.mem_of_getElem? (i := 3) rfl))) (mvT hZ (hw _ (List.mem_of_getElem? (i := 4) rfl))) (mvT hZ (hw _ (List.mem_of_getElem? (i := 5) rfl))) (by decide) (backOf (W := 0) (rmHi3 l Z a0 hw [] b16 k16 _ _ _ h25 n0 f27 V25) hZ (hw _ (List.mem_of_getElem? (i := 5) rfl)) (hw _ (List.mem_of_getElem? (i := 4) rfl)) (by decide) (by decide)) (g := (mkF m 84 #[.val (.int p0), .val (.int x0), .val (.int x1), .val (.int x2), .val (.int x3), .val (.int (3 : Int32)), .val (.ref b1), .val (.ref b16), .unset, .unset] [(.ref b16)])) rfl (by rw [hml]; rfl) (argsL := [(.ref b16)]) (rest := []) (lenOf pd___D_I rfl) rfl (by show 2 * 0 + _ ≤ _; exact Nat.le_of_eq rfl) (hb hby at_84) (fun _ _ => ⟨rfl, e25, (by decide : 2 + 0 ≤ _), (by decide : 7 + 0 ≤ _)⟩)
  dsimp only [Pt.U, Pt.locs, Pt.cells, Pt.slots] at X28 l28 y28 z28 st28 hQ28
  subst l28 y28 z28
  obtain ⟨r_28, rfl, Nq28, eH28, q28_0⟩ := hQ28
  have N28 := Fr.app N25 Nq28
  refine own_st st28 ?_
  show own_Go p e below T28 (mkF m 87 #[.val (.int p0), .val (.int x0), .val (.int x1), .val (.int x2), .val (.int x3), .val (.int (3 : Int32)), .val (.ref b1), .val (.ref b16), .unset, .unset] [(.int r_28)]) _
  rcases q28_0 with hy | hy | hy
  · skip
    obtain ⟨er_28, hx1, hx2⟩ := hy
    subst er_28
    show own_Go p e below T28 (mkF m 87 #[.val (.int p0), .val (.int x0), .val (.int x1), .val (.int x2), .val (.int x3), .val (.int (3 : Int32)), .val (.ref b1), .val (.ref b16), .unset, .unset] [(.int (0 : Int32))]) _
    refine own_st (fun t_ k_ => XS.istore X28.here hx rfl (hb hby at_87) rfl (l' := #[.val (.int p0), .val (.int x0), .val (.int x1), .val (.int x2), .val (.int x3), .val (.int (3 : Int32)), .val (.ref b1), .val (.ref b16), .val (.int (0 : Int32)), .unset]) rfl k_) ?_
    show own_Go p e below T28 (mkF m 89 #[.val (.int p0), .val (.int x0), .val (.int x1), .val (.int x2), .val (.int x3), .val (.int (3 : Int32)), .val (.ref b1), .val (.ref b16), .val (.int (0 : Int32)), .unset] []) _
    refine own_st (fun t_ k_ => XS.iload X28.here hx rfl (hb hby at_89) rfl k_) ?_
    show own_Go p e below T28 (mkF m 91 #[.val (.int p0), .val (.int x0), .val (.int x1), .val (.int x2), .val (.int x3), .val (.int (3 : Int32)), .val (.ref b1), .val (.ref b16), .val (.int (0 : Int32)), .unset] [(.int (0 : Int32))]) _
    refine own_st (fun t_ k_ => XS.ifNo X28.here hx rfl (hb hby at_91) rfl (by decide) k_) ?_
    show own_Go p e below T28 (mkF m 94 #[.val (.int p0), .val (.int x0), .val (.int x1), .val (.int x2), .val (.int x3), .val (.int (3 : Int32)), .val (.ref b1), .val (.ref b16), .val (.int (0 : Int32)), .unset] []) _
    refine own_st (fun t_ k_ => XS.iload X28.here hx rfl (hb hby at_94) rfl k_) ?_
    show own_Go p e below T28 (mkF m 96 #[.val (.int p0), .val (.int x0), .val (.int x1), .val (.int x2), .val (.int x3), .val (.int (3 : Int32)), .val (.ref b1), .val (.ref b16), .val (.int (0 : Int32)), .unset] [(.int (0 : Int32))]) _
    refine own_st (fun t_ k_ => XS.iload X28.here hx rfl (hb hby at_96) rfl k_) ?_
    show own_Go p e below T28 (mkF m 98 #[.val (.int p0), .val (.int x0), .val (.int x1), .val (.int x2), .val (.int x3), .val (.int (3 : Int32)), .val (.ref b1), .val (.ref b16), .val (.int (0 : Int32)), .unset] [(.int (3 : Int32)), (.int (0 : Int32))]) _
    refine own_st (fun t_ k_ => XS.icmpYes X28.here hx rfl (pc0 := 98) (pc' := 103) rfl (hb hby at_98) rfl (by decide) (by decide) (by decide) k_) ?_
    show own_Go p e below T28 (mkF m 103 #[.val (.int p0), .val (.int x0), .val (.int x1), .val (.int x2), .val (.int x3), .val (.int (3 : Int32)), .val (.ref b1), .val (.ref b16), .val (.int (0 : Int32)), .unset] []) _
    refine own_st (fun t_ k_ => XS.aload X28.here hx rfl (hb hby at_103) rfl rfl k_) ?_
    show own_Go p e below T28 (mkF m 105 #[.val (.int p0), .val (.int x0), .val (.int x1), .val (.int x2), .val (.int x3), .val (.int (3 : Int32)), .val (.ref b1), .val (.ref b16), .val (.int (0 : Int32)), .unset] [(.ref b1)]) _
    refine own_st (fun t_ k_ => XS.iload X28.here hx rfl (hb hby at_105) rfl k_) ?_
    show own_Go p e below T28 (mkF m 107 #[.val (.int p0), .val (.int x0), .val (.int x1), .val (.int x2), .val (.int x3), .val (.int (3 : Int32)), .val (.ref b1), .val (.ref b16), .val (.int (0 : Int32)), .unset] [(.int (0 : Int32)), (.ref b1)]) _
    have f29 := ((((V13.ext E16).other W19 (Nat.ne_of_lt (Nat.lt_of_lt_of_le V13.lt (Nat.le_of_eq g16.symm)))).other W22 (Nat.ne_of_lt (Nat.lt_of_lt_of_le V13.lt (Nat.le_of_eq g16.symm)))).other W25 (Nat.ne_of_lt (Nat.lt_of_lt_of_le V13.lt (Nat.le_of_eq g16.symm))))
    obtain ⟨cl30, Ar30, q30, Sz30, Nn30, Hh30, Gg30⟩ := id f29
    have hin30 : ¬ ((0 : Int32) < 0 ∨ cl30.slots.size ≤ ((0 : Int32)).toNatClampNeg) := inb_of Sz30 ⟨by decide, by decide⟩
    have hat30 : cl30.slots[((0 : Int32)).toNatClampNeg]? = some (.int x0) := Has.at Hh30 hin30 rfl
    refine own_st (fun t_ k_ => X28.iaload hx (j := (0 : Int32)) (v := (.int x0)) (by rw [eH28]; exact Ar30.1) (State.isArrayOf_alike hZ.alike Ar30.2.1) Ar30.2.2 hin30 hat30 (g := (mkF m 107 #[.val (.int p0), .val (.int x0), .val (.int x1), .val (.int x2), .val (.int x3), .val (.int (3 : Int32)), .val (.ref b1), .val (.ref b16), .val (.int (0 : Int32)), .unset] [(.int (0 : Int32)), (.ref b1)])) rfl rfl (hb hby at_107) _ k_) ?_
    show own_Go p e below T28 (mkF m 108 #[.val (.int p0), .val (.int x0), .val (.int x1), .val (.int x2), .val (.int x3), .val (.int (3 : Int32)), .val (.ref b1), .val (.ref b16), .val (.int (0 : Int32)), .unset] [(.int x0)]) _
    refine own_st (fun t_ k_ => XS.istore X28.here hx rfl (hb hby at_108) rfl (l' := #[.val (.int p0), .val (.int x0), .val (.int x1), .val (.int x2), .val (.int x3), .val (.int (3 : Int32)), .val (.ref b1), .val (.ref b16), .val (.int (0 : Int32)), .val (.int x0)]) rfl k_) ?_
    show own_Go p e below T28 (mkF m 110 #[.val (.int p0), .val (.int x0), .val (.int x1), .val (.int x2), .val (.int x3), .val (.int (3 : Int32)), .val (.ref b1), .val (.ref b16), .val (.int (0 : Int32)), .val (.int x0)] []) _
    refine own_st (fun t_ k_ => XS.aload X28.here hx rfl (hb hby at_110) rfl rfl k_) ?_
    show own_Go p e below T28 (mkF m 112 #[.val (.int p0), .val (.int x0), .val (.int x1), .val (.int x2), .val (.int x3), .val (.int (3 : Int32)), .val (.ref b1), .val (.ref b16), .val (.int (0 : Int32)), .val (.int x0)] [(.ref b1)]) _
    refine own_st (fun t_ k_ => XS.iconst X28.here hx rfl (hb hby at_112) k_) ?_
    show own_Go p e below T28 (mkF m 113 #[.val (.int p0), .val (.int x0), .val (.int x1), .val (.int x2), .val (.int x3), .val (.int (3 : Int32)), .val (.ref b1), .val (.ref b16), .val (.int (0 : Int32)), .val (.int x0)] [(.int (0 : Int32)), (.ref b1)]) _
    refine own_st (fun t_ k_ => XS.iload X28.here hx rfl (hb hby at_113) rfl k_) ?_
    show own_Go p e below T28 (mkF m 115 #[.val (.int p0), .val (.int x0), .val (.int x1), .val (.int x2), .val (.int x3), .val (.int (3 : Int32)), .val (.ref b1), .val (.ref b16), .val (.int (0 : Int32)), .val (.int x0)] [(.int (3 : Int32)), (.int (0 : Int32)), (.ref b1)]) _
    refine own_st (fun t_ k_ => XS.iload X28.here hx rfl (hb hby at_115) rfl k_) ?_
    show own_Go p e below T28 (mkF m 117 #[.val (.int p0), .val (.int x0), .val (.int x1), .val (.int x2), .val (.int x3), .val (.int (3 : Int32)), .val (.ref b1), .val (.ref b16), .val (.int (0 : Int32)), .val (.int x0)] [(.int (0 : Int32)), (.int (3 : Int32)), (.int (0 : Int32)), (.ref b1)]) _
    refine own_st (fun t_ k_ => XS.iload X28.here hx rfl (hb hby at_117) rfl k_) ?_
    show own_Go p e below T28 (mkF m 119 #[.val (.int p0), .val (.int x0), .val (.int x1), .val (.int x2), .val (.int x3), .val (.int (3 : Int32)), .val (.ref b1), .val (.ref b16), .val (.int (0 : Int32)), .val (.int x0)] [(.int x0), (.int (0 : Int32)), (.int (3 : Int32)), (.int (0 : Int32)), (.ref b1)]) _
    obtain ⟨_, _, ⟨T31, L31, k31, n31⟩, -, X31, ⟨Lc31, hQ31, l31, y31, z31⟩, st31⟩ := Jvm.LawKit.callS X28 hx (y := (⟨"com/example/spillback/spillback/behaviour/PlanSelectorHighestPinLaw", "ok", "([IIIII)Z"⟩ : MethodName)) hown (mvT hZ (hw _ (List.mem_of_getElem? (i := 6) rfl))) (mvT hZ (hw _ (List.mem_of_getElem? (i := 7) rfl))) (mvT hZ (hw _ (List.mem_of_getElem? (i := 8) rfl))) (mvT hZ (hw _ (List.mem_of_getElem? (i := 9) rfl))) (by decide) (backOf (W := 0) (rmOk_0_3_0 l Z a0 hw [] b1 k1 x0 _ _ _ h25 n0 f27 f29) hZ (hw _ (List.mem_of_getElem? (i := 9) rfl)) (hw _ (List.mem_of_getElem? (i := 8) rfl)) (by decide) (by decide)) (g := (mkF m 119 #[.val (.int p0), .val (.int x0), .val (.int x1), .val (.int x2), .val (.int x3), .val (.int (3 : Int32)), .val (.ref b1), .val (.ref b16), .val (.int (0 : Int32)), .val (.int x0)] [(.int x0), (.int (0 : Int32)), (.int (3 : Int32)), (.int (0 : Int32)), (.ref b1)])) rfl (by rw [hml]; rfl) (argsL := [(.ref b1), (.int (0 : Int32)), (.int (3 : Int32)), (.int (0 : Int32)), (.int x0)]) (rest := []) (lenOf pd___IIIII_Z rfl) rfl (by show 2 * 0 + _ ≤ _; exact Nat.le_of_eq rfl) (hb hby at_119) (fun _ _ => ⟨rfl, eH28, (by decide : 2 + 0 ≤ _), (by decide : 7 + 0 ≤ _)⟩)
    dsimp only [Pt.U, Pt.locs, Pt.cells, Pt.slots] at X31 l31 y31 z31 st31 hQ31
    subst l31 y31 z31
    obtain ⟨rfl, Nq31, eH31⟩ := hQ31
    have N31 := Fr.app N28 Nq31
    refine own_st st31 ?_
    show own_Go p e below T31 (mkF m 122 #[.val (.int p0), .val (.int x0), .val (.int x1), .val (.int x2), .val (.int x3), .val (.int (3 : Int32)), .val (.ref b1), .val (.ref b16), .val (.int (0 : Int32)), .val (.int x0)] [(.int (1 : Int32))]) _
    refine own_st (fun t_ k_ => XS.ifNo X31.here hx rfl (hb hby at_122) rfl (by decide) k_) ?_
    show own_Go p e below T31 (mkF m 125 #[.val (.int p0), .val (.int x0), .val (.int x1), .val (.int x2), .val (.int x3), .val (.int (3 : Int32)), .val (.ref b1), .val (.ref b16), .val (.int (0 : Int32)), .val (.int x0)] []) _
    refine own_st (fun t_ k_ => XS.aload X31.here hx rfl (hb hby at_125) rfl rfl k_) ?_
    show own_Go p e below T31 (mkF m 127 #[.val (.int p0), .val (.int x0), .val (.int x1), .val (.int x2), .val (.int x3), .val (.int (3 : Int32)), .val (.ref b1), .val (.ref b16), .val (.int (0 : Int32)), .val (.int x0)] [(.ref b1)]) _
    refine own_st (fun t_ k_ => XS.iconst X31.here hx rfl (hb hby at_127) k_) ?_
    show own_Go p e below T31 (mkF m 128 #[.val (.int p0), .val (.int x0), .val (.int x1), .val (.int x2), .val (.int x3), .val (.int (3 : Int32)), .val (.ref b1), .val (.ref b16), .val (.int (0 : Int32)), .val (.int x0)] [(.int (1 : Int32)), (.ref b1)]) _
    refine own_st (fun t_ k_ => XS.iload X31.here hx rfl (hb hby at_128) rfl k_) ?_
    show own_Go p e below T31 (mkF m 130 #[.val (.int p0), .val (.int x0), .val (.int x1), .val (.int x2), .val (.int x3), .val (.int (3 : Int32)), .val (.ref b1), .val (.ref b16), .val (.int (0 : Int32)), .val (.int x0)] [(.int (3 : Int32)), (.int (1 : Int32)), (.ref b1)]) _
    refine own_st (fun t_ k_ => XS.iload X31.here hx rfl (hb hby at_130) rfl k_) ?_
    show own_Go p e below T31 (mkF m 132 #[.val (.int p0), .val (.int x0), .val (.int x1), .val (.int x2), .val (.int x3), .val (.int (3 : Int32)), .val (.ref b1), .val (.ref b16), .val (.int (0 : Int32)), .val (.int x0)] [(.int (0 : Int32)), (.int (3 : Int32)), (.int (1 : Int32)), (.ref b1)]) _
    refine own_st (fun t_ k_ => XS.iload X31.here hx rfl (hb hby at_132) rfl k_) ?_
    show own_Go p e below T31 (mkF m 134 #[.val (.int p0), .val (.int x0), .val (.int x1), .val (.int x2), .val (.int x3), .val (.int (3 : Int32)), .val (.ref b1), .val (.ref b16), .val (.int (0 : Int32)), .val (.int x0)] [(.int x0), (.int (0 : Int32)), (.int (3 : Int32)), (.int (1 : Int32)), (.ref b1)]) _
    obtain ⟨_, _, ⟨T32, L32, k32, n32⟩, -, X32, ⟨Lc32, hQ32, l32, y32, z32⟩, st32⟩ := Jvm.LawKit.callS X31 hx (y := (⟨"com/example/spillback/spillback/behaviour/PlanSelectorHighestPinLaw", "ok", "([IIIII)Z"⟩ : MethodName)) hown (mvT hZ (hw _ (List.mem_of_getElem? (i := 6) rfl))) (mvT hZ (hw _ (List.mem_of_getElem? (i := 7) rfl))) (mvT hZ (hw _ (List.mem_of_getElem? (i := 8) rfl))) (mvT hZ (hw _ (List.mem_of_getElem? (i := 9) rfl))) (by decide) (backOf (W := 0) (rmOk_1_3_0 l Z a0 hw [] b1 k1 x0 _ _ _ h25 n0 f27 f29 hx1) hZ (hw _ (List.mem_of_getElem? (i := 9) rfl)) (hw _ (List.mem_of_getElem? (i := 8) rfl)) (by decide) (by decide)) (g := (mkF m 134 #[.val (.int p0), .val (.int x0), .val (.int x1), .val (.int x2), .val (.int x3), .val (.int (3 : Int32)), .val (.ref b1), .val (.ref b16), .val (.int (0 : Int32)), .val (.int x0)] [(.int x0), (.int (0 : Int32)), (.int (3 : Int32)), (.int (1 : Int32)), (.ref b1)])) rfl (by rw [hml]; rfl) (argsL := [(.ref b1), (.int (1 : Int32)), (.int (3 : Int32)), (.int (0 : Int32)), (.int x0)]) (rest := []) (lenOf pd___IIIII_Z rfl) rfl (by show 2 * 0 + _ ≤ _; exact Nat.le_of_eq rfl) (hb hby at_134) (fun _ _ => ⟨rfl, eH31, (by decide : 2 + 0 ≤ _), (by decide : 7 + 0 ≤ _)⟩)
    dsimp only [Pt.U, Pt.locs, Pt.cells, Pt.slots] at X32 l32 y32 z32 st32 hQ32
    subst l32 y32 z32
    obtain ⟨rfl, Nq32, eH32⟩ := hQ32
    have N32 := Fr.app N31 Nq32
    refine own_st st32 ?_
    show own_Go p e below T32 (mkF m 137 #[.val (.int p0), .val (.int x0), .val (.int x1), .val (.int x2), .val (.int x3), .val (.int (3 : Int32)), .val (.ref b1), .val (.ref b16), .val (.int (0 : Int32)), .val (.int x0)] [(.int (1 : Int32))]) _
    refine own_st (fun t_ k_ => XS.ifNo X32.here hx rfl (hb hby at_137) rfl (by decide) k_) ?_
    show own_Go p e below T32 (mkF m 140 #[.val (.int p0), .val (.int x0), .val (.int x1), .val (.int x2), .val (.int x3), .val (.int (3 : Int32)), .val (.ref b1), .val (.ref b16), .val (.int (0 : Int32)), .val (.int x0)] []) _
    refine own_st (fun t_ k_ => XS.aload X32.here hx rfl (hb hby at_140) rfl rfl k_) ?_
    show own_Go p e below T32 (mkF m 142 #[.val (.int p0), .val (.int x0), .val (.int x1), .val (.int x2), .val (.int x3), .val (.int (3 : Int32)), .val (.ref b1), .val (.ref b16), .val (.int (0 : Int32)), .val (.int x0)] [(.ref b1)]) _
    refine own_st (fun t_ k_ => XS.iconst X32.here hx rfl (hb hby at_142) k_) ?_
    show own_Go p e below T32 (mkF m 143 #[.val (.int p0), .val (.int x0), .val (.int x1), .val (.int x2), .val (.int x3), .val (.int (3 : Int32)), .val (.ref b1), .val (.ref b16), .val (.int (0 : Int32)), .val (.int x0)] [(.int (2 : Int32)), (.ref b1)]) _
    refine own_st (fun t_ k_ => XS.iload X32.here hx rfl (hb hby at_143) rfl k_) ?_
    show own_Go p e below T32 (mkF m 145 #[.val (.int p0), .val (.int x0), .val (.int x1), .val (.int x2), .val (.int x3), .val (.int (3 : Int32)), .val (.ref b1), .val (.ref b16), .val (.int (0 : Int32)), .val (.int x0)] [(.int (3 : Int32)), (.int (2 : Int32)), (.ref b1)]) _
    refine own_st (fun t_ k_ => XS.iload X32.here hx rfl (hb hby at_145) rfl k_) ?_
    show own_Go p e below T32 (mkF m 147 #[.val (.int p0), .val (.int x0), .val (.int x1), .val (.int x2), .val (.int x3), .val (.int (3 : Int32)), .val (.ref b1), .val (.ref b16), .val (.int (0 : Int32)), .val (.int x0)] [(.int (0 : Int32)), (.int (3 : Int32)), (.int (2 : Int32)), (.ref b1)]) _
    refine own_st (fun t_ k_ => XS.iload X32.here hx rfl (hb hby at_147) rfl k_) ?_
    show own_Go p e below T32 (mkF m 149 #[.val (.int p0), .val (.int x0), .val (.int x1), .val (.int x2), .val (.int x3), .val (.int (3 : Int32)), .val (.ref b1), .val (.ref b16), .val (.int (0 : Int32)), .val (.int x0)] [(.int x0), (.int (0 : Int32)), (.int (3 : Int32)), (.int (2 : Int32)), (.ref b1)]) _
    obtain ⟨_, _, ⟨T33, L33, k33, n33⟩, -, X33, ⟨Lc33, hQ33, l33, y33, z33⟩, st33⟩ := Jvm.LawKit.callS X32 hx (y := (⟨"com/example/spillback/spillback/behaviour/PlanSelectorHighestPinLaw", "ok", "([IIIII)Z"⟩ : MethodName)) hown (mvT hZ (hw _ (List.mem_of_getElem? (i := 6) rfl))) (mvT hZ (hw _ (List.mem_of_getElem? (i := 7) rfl))) (mvT hZ (hw _ (List.mem_of_getElem? (i := 8) rfl))) (mvT hZ (hw _ (List.mem_of_getElem? (i := 9) rfl))) (by decide) (backOf (W := 0) (rmOk_2_3_0 l Z a0 hw [] b1 k1 x0 _ _ _ h25 n0 f27 f29 hx2) hZ (hw _ (List.mem_of_getElem? (i := 9) rfl)) (hw _ (List.mem_of_getElem? (i := 8) rfl)) (by decide) (by decide)) (g := (mkF m 149 #[.val (.int p0), .val (.int x0), .val (.int x1), .val (.int x2), .val (.int x3), .val (.int (3 : Int32)), .val (.ref b1), .val (.ref b16), .val (.int (0 : Int32)), .val (.int x0)] [(.int x0), (.int (0 : Int32)), (.int (3 : Int32)), (.int (2 : Int32)), (.ref b1)])) rfl (by rw [hml]; rfl) (argsL := [(.ref b1), (.int (2 : Int32)), (.int (3 : Int32)), (.int (0 : Int32)), (.int x0)]) (rest := []) (lenOf pd___IIIII_Z rfl) rfl (by show 2 * 0 + _ ≤ _; exact Nat.le_of_eq rfl) (hb hby at_149) (fun _ _ => ⟨rfl, eH32, (by decide : 2 + 0 ≤ _), (by decide : 7 + 0 ≤ _)⟩)
    dsimp only [Pt.U, Pt.locs, Pt.cells, Pt.slots] at X33 l33 y33 z33 st33 hQ33
    subst l33 y33 z33
    obtain ⟨rfl, Nq33, eH33⟩ := hQ33
    have N33 := Fr.app N32 Nq33
    refine own_st st33 ?_
    show own_Go p e below T33 (mkF m 152 #[.val (.int p0), .val (.int x0), .val (.int x1), .val (.int x2), .val (.int x3), .val (.int (3 : Int32)), .val (.ref b1), .val (.ref b16), .val (.int (0 : Int32)), .val (.int x0)] [(.int (1 : Int32))]) _
    refine own_st (fun t_ k_ => XS.ifNo X33.here hx rfl (hb hby at_152) rfl (by decide) k_) ?_
    show own_Go p e below T33 (mkF m 155 #[.val (.int p0), .val (.int x0), .val (.int x1), .val (.int x2), .val (.int x3), .val (.int (3 : Int32)), .val (.ref b1), .val (.ref b16), .val (.int (0 : Int32)), .val (.int x0)] []) _
    refine own_st (fun t_ k_ => XS.aload X33.here hx rfl (hb hby at_155) rfl rfl k_) ?_
    show own_Go p e below T33 (mkF m 157 #[.val (.int p0), .val (.int x0), .val (.int x1), .val (.int x2), .val (.int x3), .val (.int (3 : Int32)), .val (.ref b1), .val (.ref b16), .val (.int (0 : Int32)), .val (.int x0)] [(.ref b1)]) _
    refine own_st (fun t_ k_ => XS.iconst X33.here hx rfl (hb hby at_157) k_) ?_
    show own_Go p e below T33 (mkF m 158 #[.val (.int p0), .val (.int x0), .val (.int x1), .val (.int x2), .val (.int x3), .val (.int (3 : Int32)), .val (.ref b1), .val (.ref b16), .val (.int (0 : Int32)), .val (.int x0)] [(.int (3 : Int32)), (.ref b1)]) _
    refine own_st (fun t_ k_ => XS.iload X33.here hx rfl (hb hby at_158) rfl k_) ?_
    show own_Go p e below T33 (mkF m 160 #[.val (.int p0), .val (.int x0), .val (.int x1), .val (.int x2), .val (.int x3), .val (.int (3 : Int32)), .val (.ref b1), .val (.ref b16), .val (.int (0 : Int32)), .val (.int x0)] [(.int (3 : Int32)), (.int (3 : Int32)), (.ref b1)]) _
    refine own_st (fun t_ k_ => XS.iload X33.here hx rfl (hb hby at_160) rfl k_) ?_
    show own_Go p e below T33 (mkF m 162 #[.val (.int p0), .val (.int x0), .val (.int x1), .val (.int x2), .val (.int x3), .val (.int (3 : Int32)), .val (.ref b1), .val (.ref b16), .val (.int (0 : Int32)), .val (.int x0)] [(.int (0 : Int32)), (.int (3 : Int32)), (.int (3 : Int32)), (.ref b1)]) _
    refine own_st (fun t_ k_ => XS.iload X33.here hx rfl (hb hby at_162) rfl k_) ?_
    show own_Go p e below T33 (mkF m 164 #[.val (.int p0), .val (.int x0), .val (.int x1), .val (.int x2), .val (.int x3), .val (.int (3 : Int32)), .val (.ref b1), .val (.ref b16), .val (.int (0 : Int32)), .val (.int x0)] [(.int x0), (.int (0 : Int32)), (.int (3 : Int32)), (.int (3 : Int32)), (.ref b1)]) _
    obtain ⟨_, _, ⟨T34, L34, k34, n34⟩, -, X34, ⟨Lc34, hQ34, l34, y34, z34⟩, st34⟩ := Jvm.LawKit.callS X33 hx (y := (⟨"com/example/spillback/spillback/behaviour/PlanSelectorHighestPinLaw", "ok", "([IIIII)Z"⟩ : MethodName)) hown (mvT hZ (hw _ (List.mem_of_getElem? (i := 6) rfl))) (mvT hZ (hw _ (List.mem_of_getElem? (i := 7) rfl))) (mvT hZ (hw _ (List.mem_of_getElem? (i := 8) rfl))) (mvT hZ (hw _ (List.mem_of_getElem? (i := 9) rfl))) (by decide) (backOf (W := 0) (rmOk_3_3_0 l Z a0 hw [] b1 k1 x0 _ _ _ h25 n0 f27 f29) hZ (hw _ (List.mem_of_getElem? (i := 9) rfl)) (hw _ (List.mem_of_getElem? (i := 8) rfl)) (by decide) (by decide)) (g := (mkF m 164 #[.val (.int p0), .val (.int x0), .val (.int x1), .val (.int x2), .val (.int x3), .val (.int (3 : Int32)), .val (.ref b1), .val (.ref b16), .val (.int (0 : Int32)), .val (.int x0)] [(.int x0), (.int (0 : Int32)), (.int (3 : Int32)), (.int (3 : Int32)), (.ref b1)])) rfl (by rw [hml]; rfl) (argsL := [(.ref b1), (.int (3 : Int32)), (.int (3 : Int32)), (.int (0 : Int32)), (.int x0)]) (rest := []) (lenOf pd___IIIII_Z rfl) rfl (by show 2 * 0 + _ ≤ _; exact Nat.le_of_eq rfl) (hb hby at_164) (fun _ _ => ⟨rfl, eH33, (by decide : 2 + 0 ≤ _), (by decide : 7 + 0 ≤ _)⟩)
    dsimp only [Pt.U, Pt.locs, Pt.cells, Pt.slots] at X34 l34 y34 z34 st34 hQ34
    subst l34 y34 z34
    obtain ⟨rfl, Nq34, eH34⟩ := hQ34
    have N34 := Fr.app N33 Nq34
    refine own_st st34 ?_
    show own_Go p e below T34 (mkF m 167 #[.val (.int p0), .val (.int x0), .val (.int x1), .val (.int x2), .val (.int x3), .val (.int (3 : Int32)), .val (.ref b1), .val (.ref b16), .val (.int (0 : Int32)), .val (.int x0)] [(.int (1 : Int32))]) _
    refine own_st (fun t_ k_ => XS.ifNo X34.here hx rfl (hb hby at_167) rfl (by decide) k_) ?_
    show own_Go p e below T34 (mkF m 170 #[.val (.int p0), .val (.int x0), .val (.int x1), .val (.int x2), .val (.int x3), .val (.int (3 : Int32)), .val (.ref b1), .val (.ref b16), .val (.int (0 : Int32)), .val (.int x0)] []) _
    refine own_st (fun t_ k_ => XS.iconst X34.here hx rfl (hb hby at_170) k_) ?_
    show own_Go p e below T34 (mkF m 171 #[.val (.int p0), .val (.int x0), .val (.int x1), .val (.int x2), .val (.int x3), .val (.int (3 : Int32)), .val (.ref b1), .val (.ref b16), .val (.int (0 : Int32)), .val (.int x0)] [(.int (1 : Int32))]) _
    refine own_st (fun t_ k_ => XS.goto X34.here hx rfl (pc0 := 171) (pc' := 175) rfl (hb hby at_171) (by decide) (by decide) k_) ?_
    show own_Go p e below T34 (mkF m 175 #[.val (.int p0), .val (.int x0), .val (.int x1), .val (.int x2), .val (.int x3), .val (.int (3 : Int32)), .val (.ref b1), .val (.ref b16), .val (.int (0 : Int32)), .val (.int x0)] [(.int (1 : Int32))]) _
    obtain ⟨fs, hr, hrun, hended, hW, hsame⟩ := X34.leave (v := some (.int (1 : Int32))) (fun h => by rw [Bd.returns] at h; cases h)
    refine own_fin (retN X34 hx (t := .boolean) Bd.returns (by simp) (hb hby at_175) hr) ⟨hrun, hended, _, _, rfl, ?_, ⟨_, rfl⟩, hW, hsame.mono (by decide) (by decide)⟩
    show Q_rmLaw3 Z p0 x0 x1 x2 x3 h0 n0 _ T34.heap _
    rw [eH34]
    exact ⟨rfl, N34, K26⟩
  · skip
    obtain ⟨er_28, hx0, hx2⟩ := hy
    subst er_28
    show own_Go p e below T28 (mkF m 87 #[.val (.int p0), .val (.int x0), .val (.int x1), .val (.int x2), .val (.int x3), .val (.int (3 : Int32)), .val (.ref b1), .val (.ref b16), .unset, .unset] [(.int (1 : Int32))]) _
    refine own_st (fun t_ k_ => XS.istore X28.here hx rfl (hb hby at_87) rfl (l' := #[.val (.int p0), .val (.int x0), .val (.int x1), .val (.int x2), .val (.int x3), .val (.int (3 : Int32)), .val (.ref b1), .val (.ref b16), .val (.int (1 : Int32)), .unset]) rfl k_) ?_
    show own_Go p e below T28 (mkF m 89 #[.val (.int p0), .val (.int x0), .val (.int x1), .val (.int x2), .val (.int x3), .val (.int (3 : Int32)), .val (.ref b1), .val (.ref b16), .val (.int (1 : Int32)), .unset] []) _
    refine own_st (fun t_ k_ => XS.iload X28.here hx rfl (hb hby at_89) rfl k_) ?_
    show own_Go p e below T28 (mkF m 91 #[.val (.int p0), .val (.int x0), .val (.int x1), .val (.int x2), .val (.int x3), .val (.int (3 : Int32)), .val (.ref b1), .val (.ref b16), .val (.int (1 : Int32)), .unset] [(.int (1 : Int32))]) _
    refine own_st (fun t_ k_ => XS.ifNo X28.here hx rfl (hb hby at_91) rfl (by decide) k_) ?_
    show own_Go p e below T28 (mkF m 94 #[.val (.int p0), .val (.int x0), .val (.int x1), .val (.int x2), .val (.int x3), .val (.int (3 : Int32)), .val (.ref b1), .val (.ref b16), .val (.int (1 : Int32)), .unset] []) _
    refine own_st (fun t_ k_ => XS.iload X28.here hx rfl (hb hby at_94) rfl k_) ?_
    show own_Go p e below T28 (mkF m 96 #[.val (.int p0), .val (.int x0), .val (.int x1), .val (.int x2), .val (.int x3), .val (.int (3 : Int32)), .val (.ref b1), .val (.ref b16), .val (.int (1 : Int32)), .unset] [(.int (1 : Int32))]) _
    refine own_st (fun t_ k_ => XS.iload X28.here hx rfl (hb hby at_96) rfl k_) ?_
    show own_Go p e below T28 (mkF m 98 #[.val (.int p0), .val (.int x0), .val (.int x1), .val (.int x2), .val (.int x3), .val (.int (3 : Int32)), .val (.ref b1), .val (.ref b16), .val (.int (1 : Int32)), .unset] [(.int (3 : Int32)), (.int (1 : Int32))]) _
    refine own_st (fun t_ k_ => XS.icmpYes X28.here hx rfl (pc0 := 98) (pc' := 103) rfl (hb hby at_98) rfl (by decide) (by decide) (by decide) k_) ?_
    show own_Go p e below T28 (mkF m 103 #[.val (.int p0), .val (.int x0), .val (.int x1), .val (.int x2), .val (.int x3), .val (.int (3 : Int32)), .val (.ref b1), .val (.ref b16), .val (.int (1 : Int32)), .unset] []) _
    refine own_st (fun t_ k_ => XS.aload X28.here hx rfl (hb hby at_103) rfl rfl k_) ?_
    show own_Go p e below T28 (mkF m 105 #[.val (.int p0), .val (.int x0), .val (.int x1), .val (.int x2), .val (.int x3), .val (.int (3 : Int32)), .val (.ref b1), .val (.ref b16), .val (.int (1 : Int32)), .unset] [(.ref b1)]) _
    refine own_st (fun t_ k_ => XS.iload X28.here hx rfl (hb hby at_105) rfl k_) ?_
    show own_Go p e below T28 (mkF m 107 #[.val (.int p0), .val (.int x0), .val (.int x1), .val (.int x2), .val (.int x3), .val (.int (3 : Int32)), .val (.ref b1), .val (.ref b16), .val (.int (1 : Int32)), .unset] [(.int (1 : Int32)), (.ref b1)]) _
    have f35 := ((((V13.ext E16).other W19 (Nat.ne_of_lt (Nat.lt_of_lt_of_le V13.lt (Nat.le_of_eq g16.symm)))).other W22 (Nat.ne_of_lt (Nat.lt_of_lt_of_le V13.lt (Nat.le_of_eq g16.symm)))).other W25 (Nat.ne_of_lt (Nat.lt_of_lt_of_le V13.lt (Nat.le_of_eq g16.symm))))
    obtain ⟨cl36, Ar36, q36, Sz36, Nn36, Hh36, Gg36⟩ := id f35
    have hin36 : ¬ ((1 : Int32) < 0 ∨ cl36.slots.size ≤ ((1 : Int32)).toNatClampNeg) := inb_of Sz36 ⟨by decide, by decide⟩
    have hat36 : cl36.slots[((1 : Int32)).toNatClampNeg]? = some (.int x1) := Has.at Hh36 hin36 rfl
    refine own_st (fun t_ k_ => X28.iaload hx (j := (1 : Int32)) (v := (.int x1)) (by rw [eH28]; exact Ar36.1) (State.isArrayOf_alike hZ.alike Ar36.2.1) Ar36.2.2 hin36 hat36 (g := (mkF m 107 #[.val (.int p0), .val (.int x0), .val (.int x1), .val (.int x2), .val (.int x3), .val (.int (3 : Int32)), .val (.ref b1), .val (.ref b16), .val (.int (1 : Int32)), .unset] [(.int (1 : Int32)), (.ref b1)])) rfl rfl (hb hby at_107) _ k_) ?_
    show own_Go p e below T28 (mkF m 108 #[.val (.int p0), .val (.int x0), .val (.int x1), .val (.int x2), .val (.int x3), .val (.int (3 : Int32)), .val (.ref b1), .val (.ref b16), .val (.int (1 : Int32)), .unset] [(.int x1)]) _
    refine own_st (fun t_ k_ => XS.istore X28.here hx rfl (hb hby at_108) rfl (l' := #[.val (.int p0), .val (.int x0), .val (.int x1), .val (.int x2), .val (.int x3), .val (.int (3 : Int32)), .val (.ref b1), .val (.ref b16), .val (.int (1 : Int32)), .val (.int x1)]) rfl k_) ?_
    show own_Go p e below T28 (mkF m 110 #[.val (.int p0), .val (.int x0), .val (.int x1), .val (.int x2), .val (.int x3), .val (.int (3 : Int32)), .val (.ref b1), .val (.ref b16), .val (.int (1 : Int32)), .val (.int x1)] []) _
    refine own_st (fun t_ k_ => XS.aload X28.here hx rfl (hb hby at_110) rfl rfl k_) ?_
    show own_Go p e below T28 (mkF m 112 #[.val (.int p0), .val (.int x0), .val (.int x1), .val (.int x2), .val (.int x3), .val (.int (3 : Int32)), .val (.ref b1), .val (.ref b16), .val (.int (1 : Int32)), .val (.int x1)] [(.ref b1)]) _
    refine own_st (fun t_ k_ => XS.iconst X28.here hx rfl (hb hby at_112) k_) ?_
    show own_Go p e below T28 (mkF m 113 #[.val (.int p0), .val (.int x0), .val (.int x1), .val (.int x2), .val (.int x3), .val (.int (3 : Int32)), .val (.ref b1), .val (.ref b16), .val (.int (1 : Int32)), .val (.int x1)] [(.int (0 : Int32)), (.ref b1)]) _
    refine own_st (fun t_ k_ => XS.iload X28.here hx rfl (hb hby at_113) rfl k_) ?_
    show own_Go p e below T28 (mkF m 115 #[.val (.int p0), .val (.int x0), .val (.int x1), .val (.int x2), .val (.int x3), .val (.int (3 : Int32)), .val (.ref b1), .val (.ref b16), .val (.int (1 : Int32)), .val (.int x1)] [(.int (3 : Int32)), (.int (0 : Int32)), (.ref b1)]) _
    refine own_st (fun t_ k_ => XS.iload X28.here hx rfl (hb hby at_115) rfl k_) ?_
    show own_Go p e below T28 (mkF m 117 #[.val (.int p0), .val (.int x0), .val (.int x1), .val (.int x2), .val (.int x3), .val (.int (3 : Int32)), .val (.ref b1), .val (.ref b16), .val (.int (1 : Int32)), .val (.int x1)] [(.int (1 : Int32)), (.int (3 : Int32)), (.int (0 : Int32)), (.ref b1)]) _
    refine own_st (fun t_ k_ => XS.iload X28.here hx rfl (hb hby at_117) rfl k_) ?_
    show own_Go p e below T28 (mkF m 119 #[.val (.int p0), .val (.int x0), .val (.int x1), .val (.int x2), .val (.int x3), .val (.int (3 : Int32)), .val (.ref b1), .val (.ref b16), .val (.int (1 : Int32)), .val (.int x1)] [(.int x1), (.int (1 : Int32)), (.int (3 : Int32)), (.int (0 : Int32)), (.ref b1)]) _
    obtain ⟨_, _, ⟨T37, L37, k37, n37⟩, -, X37, ⟨Lc37, hQ37, l37, y37, z37⟩, st37⟩ := Jvm.LawKit.callS X28 hx (y := (⟨"com/example/spillback/spillback/behaviour/PlanSelectorHighestPinLaw", "ok", "([IIIII)Z"⟩ : MethodName)) hown (mvT hZ (hw _ (List.mem_of_getElem? (i := 6) rfl))) (mvT hZ (hw _ (List.mem_of_getElem? (i := 7) rfl))) (mvT hZ (hw _ (List.mem_of_getElem? (i := 8) rfl))) (mvT hZ (hw _ (List.mem_of_getElem? (i := 9) rfl))) (by decide) (backOf (W := 0) (rmOk_0_3_1 l Z a0 hw [] b1 k1 _ x1 _ _ h25 n0 f27 f35 hx0) hZ (hw _ (List.mem_of_getElem? (i := 9) rfl)) (hw _ (List.mem_of_getElem? (i := 8) rfl)) (by decide) (by decide)) (g := (mkF m 119 #[.val (.int p0), .val (.int x0), .val (.int x1), .val (.int x2), .val (.int x3), .val (.int (3 : Int32)), .val (.ref b1), .val (.ref b16), .val (.int (1 : Int32)), .val (.int x1)] [(.int x1), (.int (1 : Int32)), (.int (3 : Int32)), (.int (0 : Int32)), (.ref b1)])) rfl (by rw [hml]; rfl) (argsL := [(.ref b1), (.int (0 : Int32)), (.int (3 : Int32)), (.int (1 : Int32)), (.int x1)]) (rest := []) (lenOf pd___IIIII_Z rfl) rfl (by show 2 * 0 + _ ≤ _; exact Nat.le_of_eq rfl) (hb hby at_119) (fun _ _ => ⟨rfl, eH28, (by decide : 2 + 0 ≤ _), (by decide : 7 + 0 ≤ _)⟩)
    dsimp only [Pt.U, Pt.locs, Pt.cells, Pt.slots] at X37 l37 y37 z37 st37 hQ37
    subst l37 y37 z37
    obtain ⟨rfl, Nq37, eH37⟩ := hQ37
    have N37 := Fr.app N28 Nq37
    refine own_st st37 ?_
    show own_Go p e below T37 (mkF m 122 #[.val (.int p0), .val (.int x0), .val (.int x1), .val (.int x2), .val (.int x3), .val (.int (3 : Int32)), .val (.ref b1), .val (.ref b16), .val (.int (1 : Int32)), .val (.int x1)] [(.int (1 : Int32))]) _
    refine own_st (fun t_ k_ => XS.ifNo X37.here hx rfl (hb hby at_122) rfl (by decide) k_) ?_
    show own_Go p e below T37 (mkF m 125 #[.val (.int p0), .val (.int x0), .val (.int x1), .val (.int x2), .val (.int x3), .val (.int (3 : Int32)), .val (.ref b1), .val (.ref b16), .val (.int (1 : Int32)), .val (.int x1)] []) _
    refine own_st (fun t_ k_ => XS.aload X37.here hx rfl (hb hby at_125) rfl rfl k_) ?_
    show own_Go p e below T37 (mkF m 127 #[.val (.int p0), .val (.int x0), .val (.int x1), .val (.int x2), .val (.int x3), .val (.int (3 : Int32)), .val (.ref b1), .val (.ref b16), .val (.int (1 : Int32)), .val (.int x1)] [(.ref b1)]) _
    refine own_st (fun t_ k_ => XS.iconst X37.here hx rfl (hb hby at_127) k_) ?_
    show own_Go p e below T37 (mkF m 128 #[.val (.int p0), .val (.int x0), .val (.int x1), .val (.int x2), .val (.int x3), .val (.int (3 : Int32)), .val (.ref b1), .val (.ref b16), .val (.int (1 : Int32)), .val (.int x1)] [(.int (1 : Int32)), (.ref b1)]) _
    refine own_st (fun t_ k_ => XS.iload X37.here hx rfl (hb hby at_128) rfl k_) ?_
    show own_Go p e below T37 (mkF m 130 #[.val (.int p0), .val (.int x0), .val (.int x1), .val (.int x2), .val (.int x3), .val (.int (3 : Int32)), .val (.ref b1), .val (.ref b16), .val (.int (1 : Int32)), .val (.int x1)] [(.int (3 : Int32)), (.int (1 : Int32)), (.ref b1)]) _
    refine own_st (fun t_ k_ => XS.iload X37.here hx rfl (hb hby at_130) rfl k_) ?_
    show own_Go p e below T37 (mkF m 132 #[.val (.int p0), .val (.int x0), .val (.int x1), .val (.int x2), .val (.int x3), .val (.int (3 : Int32)), .val (.ref b1), .val (.ref b16), .val (.int (1 : Int32)), .val (.int x1)] [(.int (1 : Int32)), (.int (3 : Int32)), (.int (1 : Int32)), (.ref b1)]) _
    refine own_st (fun t_ k_ => XS.iload X37.here hx rfl (hb hby at_132) rfl k_) ?_
    show own_Go p e below T37 (mkF m 134 #[.val (.int p0), .val (.int x0), .val (.int x1), .val (.int x2), .val (.int x3), .val (.int (3 : Int32)), .val (.ref b1), .val (.ref b16), .val (.int (1 : Int32)), .val (.int x1)] [(.int x1), (.int (1 : Int32)), (.int (3 : Int32)), (.int (1 : Int32)), (.ref b1)]) _
    obtain ⟨_, _, ⟨T38, L38, k38, n38⟩, -, X38, ⟨Lc38, hQ38, l38, y38, z38⟩, st38⟩ := Jvm.LawKit.callS X37 hx (y := (⟨"com/example/spillback/spillback/behaviour/PlanSelectorHighestPinLaw", "ok", "([IIIII)Z"⟩ : MethodName)) hown (mvT hZ (hw _ (List.mem_of_getElem? (i := 6) rfl))) (mvT hZ (hw _ (List.mem_of_getElem? (i := 7) rfl))) (mvT hZ (hw _ (List.mem_of_getElem? (i := 8) rfl))) (mvT hZ (hw _ (List.mem_of_getElem? (i := 9) rfl))) (by decide) (backOf (W := 0) (rmOk_1_3_1 l Z a0 hw [] b1 k1 _ x1 _ _ h25 n0 f27 f35) hZ (hw _ (List.mem_of_getElem? (i := 9) rfl)) (hw _ (List.mem_of_getElem? (i := 8) rfl)) (by decide) (by decide)) (g := (mkF m 134 #[.val (.int p0), .val (.int x0), .val (.int x1), .val (.int x2), .val (.int x3), .val (.int (3 : Int32)), .val (.ref b1), .val (.ref b16), .val (.int (1 : Int32)), .val (.int x1)] [(.int x1), (.int (1 : Int32)), (.int (3 : Int32)), (.int (1 : Int32)), (.ref b1)])) rfl (by rw [hml]; rfl) (argsL := [(.ref b1), (.int (1 : Int32)), (.int (3 : Int32)), (.int (1 : Int32)), (.int x1)]) (rest := []) (lenOf pd___IIIII_Z rfl) rfl (by show 2 * 0 + _ ≤ _; exact Nat.le_of_eq rfl) (hb hby at_134) (fun _ _ => ⟨rfl, eH37, (by decide : 2 + 0 ≤ _), (by decide : 7 + 0 ≤ _)⟩)
    dsimp only [Pt.U, Pt.locs, Pt.cells, Pt.slots] at X38 l38 y38 z38 st38 hQ38
    subst l38 y38 z38
    obtain ⟨rfl, Nq38, eH38⟩ := hQ38
    have N38 := Fr.app N37 Nq38
    refine own_st st38 ?_
    show own_Go p e below T38 (mkF m 137 #[.val (.int p0), .val (.int x0), .val (.int x1), .val (.int x2), .val (.int x3), .val (.int (3 : Int32)), .val (.ref b1), .val (.ref b16), .val (.int (1 : Int32)), .val (.int x1)] [(.int (1 : Int32))]) _
    refine own_st (fun t_ k_ => XS.ifNo X38.here hx rfl (hb hby at_137) rfl (by decide) k_) ?_
    show own_Go p e below T38 (mkF m 140 #[.val (.int p0), .val (.int x0), .val (.int x1), .val (.int x2), .val (.int x3), .val (.int (3 : Int32)), .val (.ref b1), .val (.ref b16), .val (.int (1 : Int32)), .val (.int x1)] []) _
    refine own_st (fun t_ k_ => XS.aload X38.here hx rfl (hb hby at_140) rfl rfl k_) ?_
    show own_Go p e below T38 (mkF m 142 #[.val (.int p0), .val (.int x0), .val (.int x1), .val (.int x2), .val (.int x3), .val (.int (3 : Int32)), .val (.ref b1), .val (.ref b16), .val (.int (1 : Int32)), .val (.int x1)] [(.ref b1)]) _
    refine own_st (fun t_ k_ => XS.iconst X38.here hx rfl (hb hby at_142) k_) ?_
    show own_Go p e below T38 (mkF m 143 #[.val (.int p0), .val (.int x0), .val (.int x1), .val (.int x2), .val (.int x3), .val (.int (3 : Int32)), .val (.ref b1), .val (.ref b16), .val (.int (1 : Int32)), .val (.int x1)] [(.int (2 : Int32)), (.ref b1)]) _
    refine own_st (fun t_ k_ => XS.iload X38.here hx rfl (hb hby at_143) rfl k_) ?_
    show own_Go p e below T38 (mkF m 145 #[.val (.int p0), .val (.int x0), .val (.int x1), .val (.int x2), .val (.int x3), .val (.int (3 : Int32)), .val (.ref b1), .val (.ref b16), .val (.int (1 : Int32)), .val (.int x1)] [(.int (3 : Int32)), (.int (2 : Int32)), (.ref b1)]) _
    refine own_st (fun t_ k_ => XS.iload X38.here hx rfl (hb hby at_145) rfl k_) ?_
    show own_Go p e below T38 (mkF m 147 #[.val (.int p0), .val (.int x0), .val (.int x1), .val (.int x2), .val (.int x3), .val (.int (3 : Int32)), .val (.ref b1), .val (.ref b16), .val (.int (1 : Int32)), .val (.int x1)] [(.int (1 : Int32)), (.int (3 : Int32)), (.int (2 : Int32)), (.ref b1)]) _
    refine own_st (fun t_ k_ => XS.iload X38.here hx rfl (hb hby at_147) rfl k_) ?_
    show own_Go p e below T38 (mkF m 149 #[.val (.int p0), .val (.int x0), .val (.int x1), .val (.int x2), .val (.int x3), .val (.int (3 : Int32)), .val (.ref b1), .val (.ref b16), .val (.int (1 : Int32)), .val (.int x1)] [(.int x1), (.int (1 : Int32)), (.int (3 : Int32)), (.int (2 : Int32)), (.ref b1)]) _
    obtain ⟨_, _, ⟨T39, L39, k39, n39⟩, -, X39, ⟨Lc39, hQ39, l39, y39, z39⟩, st39⟩ := Jvm.LawKit.callS X38 hx (y := (⟨"com/example/spillback/spillback/behaviour/PlanSelectorHighestPinLaw", "ok", "([IIIII)Z"⟩ : MethodName)) hown (mvT hZ (hw _ (List.mem_of_getElem? (i := 6) rfl))) (mvT hZ (hw _ (List.mem_of_getElem? (i := 7) rfl))) (mvT hZ (hw _ (List.mem_of_getElem? (i := 8) rfl))) (mvT hZ (hw _ (List.mem_of_getElem? (i := 9) rfl))) (by decide) (backOf (W := 0) (rmOk_2_3_1 l Z a0 hw [] b1 k1 _ x1 _ _ h25 n0 f27 f35 hx2) hZ (hw _ (List.mem_of_getElem? (i := 9) rfl)) (hw _ (List.mem_of_getElem? (i := 8) rfl)) (by decide) (by decide)) (g := (mkF m 149 #[.val (.int p0), .val (.int x0), .val (.int x1), .val (.int x2), .val (.int x3), .val (.int (3 : Int32)), .val (.ref b1), .val (.ref b16), .val (.int (1 : Int32)), .val (.int x1)] [(.int x1), (.int (1 : Int32)), (.int (3 : Int32)), (.int (2 : Int32)), (.ref b1)])) rfl (by rw [hml]; rfl) (argsL := [(.ref b1), (.int (2 : Int32)), (.int (3 : Int32)), (.int (1 : Int32)), (.int x1)]) (rest := []) (lenOf pd___IIIII_Z rfl) rfl (by show 2 * 0 + _ ≤ _; exact Nat.le_of_eq rfl) (hb hby at_149) (fun _ _ => ⟨rfl, eH38, (by decide : 2 + 0 ≤ _), (by decide : 7 + 0 ≤ _)⟩)
    dsimp only [Pt.U, Pt.locs, Pt.cells, Pt.slots] at X39 l39 y39 z39 st39 hQ39
    subst l39 y39 z39
    obtain ⟨rfl, Nq39, eH39⟩ := hQ39
    have N39 := Fr.app N38 Nq39
    refine own_st st39 ?_
    show own_Go p e below T39 (mkF m 152 #[.val (.int p0), .val (.int x0), .val (.int x1), .val (.int x2), .val (.int x3), .val (.int (3 : Int32)), .val (.ref b1), .val (.ref b16), .val (.int (1 : Int32)), .val (.int x1)] [(.int (1 : Int32))]) _
    refine own_st (fun t_ k_ => XS.ifNo X39.here hx rfl (hb hby at_152) rfl (by decide) k_) ?_
    show own_Go p e below T39 (mkF m 155 #[.val (.int p0), .val (.int x0), .val (.int x1), .val (.int x2), .val (.int x3), .val (.int (3 : Int32)), .val (.ref b1), .val (.ref b16), .val (.int (1 : Int32)), .val (.int x1)] []) _
    refine own_st (fun t_ k_ => XS.aload X39.here hx rfl (hb hby at_155) rfl rfl k_) ?_
    show own_Go p e below T39 (mkF m 157 #[.val (.int p0), .val (.int x0), .val (.int x1), .val (.int x2), .val (.int x3), .val (.int (3 : Int32)), .val (.ref b1), .val (.ref b16), .val (.int (1 : Int32)), .val (.int x1)] [(.ref b1)]) _
    refine own_st (fun t_ k_ => XS.iconst X39.here hx rfl (hb hby at_157) k_) ?_
    show own_Go p e below T39 (mkF m 158 #[.val (.int p0), .val (.int x0), .val (.int x1), .val (.int x2), .val (.int x3), .val (.int (3 : Int32)), .val (.ref b1), .val (.ref b16), .val (.int (1 : Int32)), .val (.int x1)] [(.int (3 : Int32)), (.ref b1)]) _
    refine own_st (fun t_ k_ => XS.iload X39.here hx rfl (hb hby at_158) rfl k_) ?_
    show own_Go p e below T39 (mkF m 160 #[.val (.int p0), .val (.int x0), .val (.int x1), .val (.int x2), .val (.int x3), .val (.int (3 : Int32)), .val (.ref b1), .val (.ref b16), .val (.int (1 : Int32)), .val (.int x1)] [(.int (3 : Int32)), (.int (3 : Int32)), (.ref b1)]) _
    refine own_st (fun t_ k_ => XS.iload X39.here hx rfl (hb hby at_160) rfl k_) ?_
    show own_Go p e below T39 (mkF m 162 #[.val (.int p0), .val (.int x0), .val (.int x1), .val (.int x2), .val (.int x3), .val (.int (3 : Int32)), .val (.ref b1), .val (.ref b16), .val (.int (1 : Int32)), .val (.int x1)] [(.int (1 : Int32)), (.int (3 : Int32)), (.int (3 : Int32)), (.ref b1)]) _
    refine own_st (fun t_ k_ => XS.iload X39.here hx rfl (hb hby at_162) rfl k_) ?_
    show own_Go p e below T39 (mkF m 164 #[.val (.int p0), .val (.int x0), .val (.int x1), .val (.int x2), .val (.int x3), .val (.int (3 : Int32)), .val (.ref b1), .val (.ref b16), .val (.int (1 : Int32)), .val (.int x1)] [(.int x1), (.int (1 : Int32)), (.int (3 : Int32)), (.int (3 : Int32)), (.ref b1)]) _
    obtain ⟨_, _, ⟨T40, L40, k40, n40⟩, -, X40, ⟨Lc40, hQ40, l40, y40, z40⟩, st40⟩ := Jvm.LawKit.callS X39 hx (y := (⟨"com/example/spillback/spillback/behaviour/PlanSelectorHighestPinLaw", "ok", "([IIIII)Z"⟩ : MethodName)) hown (mvT hZ (hw _ (List.mem_of_getElem? (i := 6) rfl))) (mvT hZ (hw _ (List.mem_of_getElem? (i := 7) rfl))) (mvT hZ (hw _ (List.mem_of_getElem? (i := 8) rfl))) (mvT hZ (hw _ (List.mem_of_getElem? (i := 9) rfl))) (by decide) (backOf (W := 0) (rmOk_3_3_1 l Z a0 hw [] b1 k1 _ x1 _ _ h25 n0 f27 f35) hZ (hw _ (List.mem_of_getElem? (i := 9) rfl)) (hw _ (List.mem_of_getElem? (i := 8) rfl)) (by decide) (by decide)) (g := (mkF m 164 #[.val (.int p0), .val (.int x0), .val (.int x1), .val (.int x2), .val (.int x3), .val (.int (3 : Int32)), .val (.ref b1), .val (.ref b16), .val (.int (1 : Int32)), .val (.int x1)] [(.int x1), (.int (1 : Int32)), (.int (3 : Int32)), (.int (3 : Int32)), (.ref b1)])) rfl (by rw [hml]; rfl) (argsL := [(.ref b1), (.int (3 : Int32)), (.int (3 : Int32)), (.int (1 : Int32)), (.int x1)]) (rest := []) (lenOf pd___IIIII_Z rfl) rfl (by show 2 * 0 + _ ≤ _; exact Nat.le_of_eq rfl) (hb hby at_164) (fun _ _ => ⟨rfl, eH39, (by decide : 2 + 0 ≤ _), (by decide : 7 + 0 ≤ _)⟩)
    dsimp only [Pt.U, Pt.locs, Pt.cells, Pt.slots] at X40 l40 y40 z40 st40 hQ40
    subst l40 y40 z40
    obtain ⟨rfl, Nq40, eH40⟩ := hQ40
    have N40 := Fr.app N39 Nq40
    refine own_st st40 ?_
    show own_Go p e below T40 (mkF m 167 #[.val (.int p0), .val (.int x0), .val (.int x1), .val (.int x2), .val (.int x3), .val (.int (3 : Int32)), .val (.ref b1), .val (.ref b16), .val (.int (1 : Int32)), .val (.int x1)] [(.int (1 : Int32))]) _
    refine own_st (fun t_ k_ => XS.ifNo X40.here hx rfl (hb hby at_167) rfl (by decide) k_) ?_
    show own_Go p e below T40 (mkF m 170 #[.val (.int p0), .val (.int x0), .val (.int x1), .val (.int x2), .val (.int x3), .val (.int (3 : Int32)), .val (.ref b1), .val (.ref b16), .val (.int (1 : Int32)), .val (.int x1)] []) _
    refine own_st (fun t_ k_ => XS.iconst X40.here hx rfl (hb hby at_170) k_) ?_
    show own_Go p e below T40 (mkF m 171 #[.val (.int p0), .val (.int x0), .val (.int x1), .val (.int x2), .val (.int x3), .val (.int (3 : Int32)), .val (.ref b1), .val (.ref b16), .val (.int (1 : Int32)), .val (.int x1)] [(.int (1 : Int32))]) _
    refine own_st (fun t_ k_ => XS.goto X40.here hx rfl (pc0 := 171) (pc' := 175) rfl (hb hby at_171) (by decide) (by decide) k_) ?_
    show own_Go p e below T40 (mkF m 175 #[.val (.int p0), .val (.int x0), .val (.int x1), .val (.int x2), .val (.int x3), .val (.int (3 : Int32)), .val (.ref b1), .val (.ref b16), .val (.int (1 : Int32)), .val (.int x1)] [(.int (1 : Int32))]) _
    obtain ⟨fs, hr, hrun, hended, hW, hsame⟩ := X40.leave (v := some (.int (1 : Int32))) (fun h => by rw [Bd.returns] at h; cases h)
    refine own_fin (retN X40 hx (t := .boolean) Bd.returns (by simp) (hb hby at_175) hr) ⟨hrun, hended, _, _, rfl, ?_, ⟨_, rfl⟩, hW, hsame.mono (by decide) (by decide)⟩
    show Q_rmLaw3 Z p0 x0 x1 x2 x3 h0 n0 _ T40.heap _
    rw [eH40]
    exact ⟨rfl, N40, K26⟩
  · skip
    obtain ⟨er_28, hx0, hx1⟩ := hy
    subst er_28
    show own_Go p e below T28 (mkF m 87 #[.val (.int p0), .val (.int x0), .val (.int x1), .val (.int x2), .val (.int x3), .val (.int (3 : Int32)), .val (.ref b1), .val (.ref b16), .unset, .unset] [(.int (2 : Int32))]) _
    refine own_st (fun t_ k_ => XS.istore X28.here hx rfl (hb hby at_87) rfl (l' := #[.val (.int p0), .val (.int x0), .val (.int x1), .val (.int x2), .val (.int x3), .val (.int (3 : Int32)), .val (.ref b1), .val (.ref b16), .val (.int (2 : Int32)), .unset]) rfl k_) ?_
    show own_Go p e below T28 (mkF m 89 #[.val (.int p0), .val (.int x0), .val (.int x1), .val (.int x2), .val (.int x3), .val (.int (3 : Int32)), .val (.ref b1), .val (.ref b16), .val (.int (2 : Int32)), .unset] []) _
    refine own_st (fun t_ k_ => XS.iload X28.here hx rfl (hb hby at_89) rfl k_) ?_
    show own_Go p e below T28 (mkF m 91 #[.val (.int p0), .val (.int x0), .val (.int x1), .val (.int x2), .val (.int x3), .val (.int (3 : Int32)), .val (.ref b1), .val (.ref b16), .val (.int (2 : Int32)), .unset] [(.int (2 : Int32))]) _
    refine own_st (fun t_ k_ => XS.ifNo X28.here hx rfl (hb hby at_91) rfl (by decide) k_) ?_
    show own_Go p e below T28 (mkF m 94 #[.val (.int p0), .val (.int x0), .val (.int x1), .val (.int x2), .val (.int x3), .val (.int (3 : Int32)), .val (.ref b1), .val (.ref b16), .val (.int (2 : Int32)), .unset] []) _
    refine own_st (fun t_ k_ => XS.iload X28.here hx rfl (hb hby at_94) rfl k_) ?_
    show own_Go p e below T28 (mkF m 96 #[.val (.int p0), .val (.int x0), .val (.int x1), .val (.int x2), .val (.int x3), .val (.int (3 : Int32)), .val (.ref b1), .val (.ref b16), .val (.int (2 : Int32)), .unset] [(.int (2 : Int32))]) _
    refine own_st (fun t_ k_ => XS.iload X28.here hx rfl (hb hby at_96) rfl k_) ?_
    show own_Go p e below T28 (mkF m 98 #[.val (.int p0), .val (.int x0), .val (.int x1), .val (.int x2), .val (.int x3), .val (.int (3 : Int32)), .val (.ref b1), .val (.ref b16), .val (.int (2 : Int32)), .unset] [(.int (3 : Int32)), (.int (2 : Int32))]) _
    refine own_st (fun t_ k_ => XS.icmpYes X28.here hx rfl (pc0 := 98) (pc' := 103) rfl (hb hby at_98) rfl (by decide) (by decide) (by decide) k_) ?_
    show own_Go p e below T28 (mkF m 103 #[.val (.int p0), .val (.int x0), .val (.int x1), .val (.int x2), .val (.int x3), .val (.int (3 : Int32)), .val (.ref b1), .val (.ref b16), .val (.int (2 : Int32)), .unset] []) _
    refine own_st (fun t_ k_ => XS.aload X28.here hx rfl (hb hby at_103) rfl rfl k_) ?_
    show own_Go p e below T28 (mkF m 105 #[.val (.int p0), .val (.int x0), .val (.int x1), .val (.int x2), .val (.int x3), .val (.int (3 : Int32)), .val (.ref b1), .val (.ref b16), .val (.int (2 : Int32)), .unset] [(.ref b1)]) _
    refine own_st (fun t_ k_ => XS.iload X28.here hx rfl (hb hby at_105) rfl k_) ?_
    show own_Go p e below T28 (mkF m 107 #[.val (.int p0), .val (.int x0), .val (.int x1), .val (.int x2), .val (.int x3), .val (.int (3 : Int32)), .val (.ref b1), .val (.ref b16), .val (.int (2 : Int32)), .unset] [(.int (2 : Int32)), (.ref b1)]) _
    have f41 := ((((V13.ext E16).other W19 (Nat.ne_of_lt (Nat.lt_of_lt_of_le V13.lt (Nat.le_of_eq g16.symm)))).other W22 (Nat.ne_of_lt (Nat.lt_of_lt_of_le V13.lt (Nat.le_of_eq g16.symm)))).other W25 (Nat.ne_of_lt (Nat.lt_of_lt_of_le V13.lt (Nat.le_of_eq g16.symm))))
    obtain ⟨cl42, Ar42, q42, Sz42, Nn42, Hh42, Gg42⟩ := id f41
    have hin42 : ¬ ((2 : Int32) < 0 ∨ cl42.slots.size ≤ ((2 : Int32)).toNatClampNeg) := inb_of Sz42 ⟨by decide, by decide⟩
    have hat42 : cl42.slots[((2 : Int32)).toNatClampNeg]? = some (.int x2) := Has.at Hh42 hin42 rfl
    refine own_st (fun t_ k_ => X28.iaload hx (j := (2 : Int32)) (v := (.int x2)) (by rw [eH28]; exact Ar42.1) (State.isArrayOf_alike hZ.alike Ar42.2.1) Ar42.2.2 hin42 hat42 (g := (mkF m 107 #[.val (.int p0), .val (.int x0), .val (.int x1), .val (.int x2), .val (.int x3), .val (.int (3 : Int32)), .val (.ref b1), .val (.ref b16), .val (.int (2 : Int32)), .unset] [(.int (2 : Int32)), (.ref b1)])) rfl rfl (hb hby at_107) _ k_) ?_
    show own_Go p e below T28 (mkF m 108 #[.val (.int p0), .val (.int x0), .val (.int x1), .val (.int x2), .val (.int x3), .val (.int (3 : Int32)), .val (.ref b1), .val (.ref b16), .val (.int (2 : Int32)), .unset] [(.int x2)]) _
    refine own_st (fun t_ k_ => XS.istore X28.here hx rfl (hb hby at_108) rfl (l' := #[.val (.int p0), .val (.int x0), .val (.int x1), .val (.int x2), .val (.int x3), .val (.int (3 : Int32)), .val (.ref b1), .val (.ref b16), .val (.int (2 : Int32)), .val (.int x2)]) rfl k_) ?_
    show own_Go p e below T28 (mkF m 110 #[.val (.int p0), .val (.int x0), .val (.int x1), .val (.int x2), .val (.int x3), .val (.int (3 : Int32)), .val (.ref b1), .val (.ref b16), .val (.int (2 : Int32)), .val (.int x2)] []) _
    refine own_st (fun t_ k_ => XS.aload X28.here hx rfl (hb hby at_110) rfl rfl k_) ?_
    show own_Go p e below T28 (mkF m 112 #[.val (.int p0), .val (.int x0), .val (.int x1), .val (.int x2), .val (.int x3), .val (.int (3 : Int32)), .val (.ref b1), .val (.ref b16), .val (.int (2 : Int32)), .val (.int x2)] [(.ref b1)]) _
    refine own_st (fun t_ k_ => XS.iconst X28.here hx rfl (hb hby at_112) k_) ?_
    show own_Go p e below T28 (mkF m 113 #[.val (.int p0), .val (.int x0), .val (.int x1), .val (.int x2), .val (.int x3), .val (.int (3 : Int32)), .val (.ref b1), .val (.ref b16), .val (.int (2 : Int32)), .val (.int x2)] [(.int (0 : Int32)), (.ref b1)]) _
    refine own_st (fun t_ k_ => XS.iload X28.here hx rfl (hb hby at_113) rfl k_) ?_
    show own_Go p e below T28 (mkF m 115 #[.val (.int p0), .val (.int x0), .val (.int x1), .val (.int x2), .val (.int x3), .val (.int (3 : Int32)), .val (.ref b1), .val (.ref b16), .val (.int (2 : Int32)), .val (.int x2)] [(.int (3 : Int32)), (.int (0 : Int32)), (.ref b1)]) _
    refine own_st (fun t_ k_ => XS.iload X28.here hx rfl (hb hby at_115) rfl k_) ?_
    show own_Go p e below T28 (mkF m 117 #[.val (.int p0), .val (.int x0), .val (.int x1), .val (.int x2), .val (.int x3), .val (.int (3 : Int32)), .val (.ref b1), .val (.ref b16), .val (.int (2 : Int32)), .val (.int x2)] [(.int (2 : Int32)), (.int (3 : Int32)), (.int (0 : Int32)), (.ref b1)]) _
    refine own_st (fun t_ k_ => XS.iload X28.here hx rfl (hb hby at_117) rfl k_) ?_
    show own_Go p e below T28 (mkF m 119 #[.val (.int p0), .val (.int x0), .val (.int x1), .val (.int x2), .val (.int x3), .val (.int (3 : Int32)), .val (.ref b1), .val (.ref b16), .val (.int (2 : Int32)), .val (.int x2)] [(.int x2), (.int (2 : Int32)), (.int (3 : Int32)), (.int (0 : Int32)), (.ref b1)]) _
    obtain ⟨_, _, ⟨T43, L43, k43, n43⟩, -, X43, ⟨Lc43, hQ43, l43, y43, z43⟩, st43⟩ := Jvm.LawKit.callS X28 hx (y := (⟨"com/example/spillback/spillback/behaviour/PlanSelectorHighestPinLaw", "ok", "([IIIII)Z"⟩ : MethodName)) hown (mvT hZ (hw _ (List.mem_of_getElem? (i := 6) rfl))) (mvT hZ (hw _ (List.mem_of_getElem? (i := 7) rfl))) (mvT hZ (hw _ (List.mem_of_getElem? (i := 8) rfl))) (mvT hZ (hw _ (List.mem_of_getElem? (i := 9) rfl))) (by decide) (backOf (W := 0) (rmOk_0_3_2 l Z a0 hw [] b1 k1 _ _ x2 _ h25 n0 f27 f41 hx0) hZ (hw _ (List.mem_of_getElem? (i := 9) rfl)) (hw _ (List.mem_of_getElem? (i := 8) rfl)) (by decide) (by decide)) (g := (mkF m 119 #[.val (.int p0), .val (.int x0), .val (.int x1), .val (.int x2), .val (.int x3), .val (.int (3 : Int32)), .val (.ref b1), .val (.ref b16), .val (.int (2 : Int32)), .val (.int x2)] [(.int x2), (.int (2 : Int32)), (.int (3 : Int32)), (.int (0 : Int32)), (.ref b1)])) rfl (by rw [hml]; rfl) (argsL := [(.ref b1), (.int (0 : Int32)), (.int (3 : Int32)), (.int (2 : Int32)), (.int x2)]) (rest := []) (lenOf pd___IIIII_Z rfl) rfl (by show 2 * 0 + _ ≤ _; exact Nat.le_of_eq rfl) (hb hby at_119) (fun _ _ => ⟨rfl, eH28, (by decide : 2 + 0 ≤ _), (by decide : 7 + 0 ≤ _)⟩)
    dsimp only [Pt.U, Pt.locs, Pt.cells, Pt.slots] at X43 l43 y43 z43 st43 hQ43
    subst l43 y43 z43
    obtain ⟨rfl, Nq43, eH43⟩ := hQ43
    have N43 := Fr.app N28 Nq43
    refine own_st st43 ?_
    show own_Go p e below T43 (mkF m 122 #[.val (.int p0), .val (.int x0), .val (.int x1), .val (.int x2), .val (.int x3), .val (.int (3 : Int32)), .val (.ref b1), .val (.ref b16), .val (.int (2 : Int32)), .val (.int x2)] [(.int (1 : Int32))]) _
    refine own_st (fun t_ k_ => XS.ifNo X43.here hx rfl (hb hby at_122) rfl (by decide) k_) ?_
    show own_Go p e below T43 (mkF m 125 #[.val (.int p0), .val (.int x0), .val (.int x1), .val (.int x2), .val (.int x3), .val (.int (3 : Int32)), .val (.ref b1), .val (.ref b16), .val (.int (2 : Int32)), .val (.int x2)] []) _
    refine own_st (fun t_ k_ => XS.aload X43.here hx rfl (hb hby at_125) rfl rfl k_) ?_
    show own_Go p e below T43 (mkF m 127 #[.val (.int p0), .val (.int x0), .val (.int x1), .val (.int x2), .val (.int x3), .val (.int (3 : Int32)), .val (.ref b1), .val (.ref b16), .val (.int (2 : Int32)), .val (.int x2)] [(.ref b1)]) _
    refine own_st (fun t_ k_ => XS.iconst X43.here hx rfl (hb hby at_127) k_) ?_
    show own_Go p e below T43 (mkF m 128 #[.val (.int p0), .val (.int x0), .val (.int x1), .val (.int x2), .val (.int x3), .val (.int (3 : Int32)), .val (.ref b1), .val (.ref b16), .val (.int (2 : Int32)), .val (.int x2)] [(.int (1 : Int32)), (.ref b1)]) _
    refine own_st (fun t_ k_ => XS.iload X43.here hx rfl (hb hby at_128) rfl k_) ?_
    show own_Go p e below T43 (mkF m 130 #[.val (.int p0), .val (.int x0), .val (.int x1), .val (.int x2), .val (.int x3), .val (.int (3 : Int32)), .val (.ref b1), .val (.ref b16), .val (.int (2 : Int32)), .val (.int x2)] [(.int (3 : Int32)), (.int (1 : Int32)), (.ref b1)]) _
    refine own_st (fun t_ k_ => XS.iload X43.here hx rfl (hb hby at_130) rfl k_) ?_
    show own_Go p e below T43 (mkF m 132 #[.val (.int p0), .val (.int x0), .val (.int x1), .val (.int x2), .val (.int x3), .val (.int (3 : Int32)), .val (.ref b1), .val (.ref b16), .val (.int (2 : Int32)), .val (.int x2)] [(.int (2 : Int32)), (.int (3 : Int32)), (.int (1 : Int32)), (.ref b1)]) _
    refine own_st (fun t_ k_ => XS.iload X43.here hx rfl (hb hby at_132) rfl k_) ?_
    show own_Go p e below T43 (mkF m 134 #[.val (.int p0), .val (.int x0), .val (.int x1), .val (.int x2), .val (.int x3), .val (.int (3 : Int32)), .val (.ref b1), .val (.ref b16), .val (.int (2 : Int32)), .val (.int x2)] [(.int x2), (.int (2 : Int32)), (.int (3 : Int32)), (.int (1 : Int32)), (.ref b1)]) _
    obtain ⟨_, _, ⟨T44, L44, k44, n44⟩, -, X44, ⟨Lc44, hQ44, l44, y44, z44⟩, st44⟩ := Jvm.LawKit.callS X43 hx (y := (⟨"com/example/spillback/spillback/behaviour/PlanSelectorHighestPinLaw", "ok", "([IIIII)Z"⟩ : MethodName)) hown (mvT hZ (hw _ (List.mem_of_getElem? (i := 6) rfl))) (mvT hZ (hw _ (List.mem_of_getElem? (i := 7) rfl))) (mvT hZ (hw _ (List.mem_of_getElem? (i := 8) rfl))) (mvT hZ (hw _ (List.mem_of_getElem? (i := 9) rfl))) (by decide) (backOf (W := 0) (rmOk_1_3_2 l Z a0 hw [] b1 k1 _ _ x2 _ h25 n0 f27 f41 hx1) hZ (hw _ (List.mem_of_getElem? (i := 9) rfl)) (hw _ (List.mem_of_getElem? (i := 8) rfl)) (by decide) (by decide)) (g := (mkF m 134 #[.val (.int p0), .val (.int x0), .val (.int x1), .val (.int x2), .val (.int x3), .val (.int (3 : Int32)), .val (.ref b1), .val (.ref b16), .val (.int (2 : Int32)), .val (.int x2)] [(.int x2), (.int (2 : Int32)), (.int (3 : Int32)), (.int (1 : Int32)), (.ref b1)])) rfl (by rw [hml]; rfl) (argsL := [(.ref b1), (.int (1 : Int32)), (.int (3 : Int32)), (.int (2 : Int32)), (.int x2)]) (rest := []) (lenOf pd___IIIII_Z rfl) rfl (by show 2 * 0 + _ ≤ _; exact Nat.le_of_eq rfl) (hb hby at_134) (fun _ _ => ⟨rfl, eH43, (by decide : 2 + 0 ≤ _), (by decide : 7 + 0 ≤ _)⟩)
    dsimp only [Pt.U, Pt.locs, Pt.cells, Pt.slots] at X44 l44 y44 z44 st44 hQ44
    subst l44 y44 z44
    obtain ⟨rfl, Nq44, eH44⟩ := hQ44
    have N44 := Fr.app N43 Nq44
    refine own_st st44 ?_
    show own_Go p e below T44 (mkF m 137 #[.val (.int p0), .val (.int x0), .val (.int x1), .val (.int x2), .val (.int x3), .val (.int (3 : Int32)), .val (.ref b1), .val (.ref b16), .val (.int (2 : Int32)), .val (.int x2)] [(.int (1 : Int32))]) _
    refine own_st (fun t_ k_ => XS.ifNo X44.here hx rfl (hb hby at_137) rfl (by decide) k_) ?_
    show own_Go p e below T44 (mkF m 140 #[.val (.int p0), .val (.int x0), .val (.int x1), .val (.int x2), .val (.int x3), .val (.int (3 : Int32)), .val (.ref b1), .val (.ref b16), .val (.int (2 : Int32)), .val (.int x2)] []) _
    refine own_st (fun t_ k_ => XS.aload X44.here hx rfl (hb hby at_140) rfl rfl k_) ?_
    show own_Go p e below T44 (mkF m 142 #[.val (.int p0), .val (.int x0), .val (.int x1), .val (.int x2), .val (.int x3), .val (.int (3 : Int32)), .val (.ref b1), .val (.ref b16), .val (.int (2 : Int32)), .val (.int x2)] [(.ref b1)]) _
    refine own_st (fun t_ k_ => XS.iconst X44.here hx rfl (hb hby at_142) k_) ?_
    show own_Go p e below T44 (mkF m 143 #[.val (.int p0), .val (.int x0), .val (.int x1), .val (.int x2), .val (.int x3), .val (.int (3 : Int32)), .val (.ref b1), .val (.ref b16), .val (.int (2 : Int32)), .val (.int x2)] [(.int (2 : Int32)), (.ref b1)]) _
    refine own_st (fun t_ k_ => XS.iload X44.here hx rfl (hb hby at_143) rfl k_) ?_
    show own_Go p e below T44 (mkF m 145 #[.val (.int p0), .val (.int x0), .val (.int x1), .val (.int x2), .val (.int x3), .val (.int (3 : Int32)), .val (.ref b1), .val (.ref b16), .val (.int (2 : Int32)), .val (.int x2)] [(.int (3 : Int32)), (.int (2 : Int32)), (.ref b1)]) _
    refine own_st (fun t_ k_ => XS.iload X44.here hx rfl (hb hby at_145) rfl k_) ?_
    show own_Go p e below T44 (mkF m 147 #[.val (.int p0), .val (.int x0), .val (.int x1), .val (.int x2), .val (.int x3), .val (.int (3 : Int32)), .val (.ref b1), .val (.ref b16), .val (.int (2 : Int32)), .val (.int x2)] [(.int (2 : Int32)), (.int (3 : Int32)), (.int (2 : Int32)), (.ref b1)]) _
    refine own_st (fun t_ k_ => XS.iload X44.here hx rfl (hb hby at_147) rfl k_) ?_
    show own_Go p e below T44 (mkF m 149 #[.val (.int p0), .val (.int x0), .val (.int x1), .val (.int x2), .val (.int x3), .val (.int (3 : Int32)), .val (.ref b1), .val (.ref b16), .val (.int (2 : Int32)), .val (.int x2)] [(.int x2), (.int (2 : Int32)), (.int (3 : Int32)), (.int (2 : Int32)), (.ref b1)]) _
    obtain ⟨_, _, ⟨T45, L45, k45, n45⟩, -, X45, ⟨Lc45, hQ45, l45, y45, z45⟩, st45⟩ := Jvm.LawKit.callS X44 hx (y := (⟨"com/example/spillback/spillback/behaviour/PlanSelectorHighestPinLaw", "ok", "([IIIII)Z"⟩ : MethodName)) hown (mvT hZ (hw _ (List.mem_of_getElem? (i := 6) rfl))) (mvT hZ (hw _ (List.mem_of_getElem? (i := 7) rfl))) (mvT hZ (hw _ (List.mem_of_getElem? (i := 8) rfl))) (mvT hZ (hw _ (List.mem_of_getElem? (i := 9) rfl))) (by decide) (backOf (W := 0) (rmOk_2_3_2 l Z a0 hw [] b1 k1 _ _ x2 _ h25 n0 f27 f41) hZ (hw _ (List.mem_of_getElem? (i := 9) rfl)) (hw _ (List.mem_of_getElem? (i := 8) rfl)) (by decide) (by decide)) (g := (mkF m 149 #[.val (.int p0), .val (.int x0), .val (.int x1), .val (.int x2), .val (.int x3), .val (.int (3 : Int32)), .val (.ref b1), .val (.ref b16), .val (.int (2 : Int32)), .val (.int x2)] [(.int x2), (.int (2 : Int32)), (.int (3 : Int32)), (.int (2 : Int32)), (.ref b1)])) rfl (by rw [hml]; rfl) (argsL := [(.ref b1), (.int (2 : Int32)), (.int (3 : Int32)), (.int (2 : Int32)), (.int x2)]) (rest := []) (lenOf pd___IIIII_Z rfl) rfl (by show 2 * 0 + _ ≤ _; exact Nat.le_of_eq rfl) (hb hby at_149) (fun _ _ => ⟨rfl, eH44, (by decide : 2 + 0 ≤ _), (by decide : 7 + 0 ≤ _)⟩)
    dsimp only [Pt.U, Pt.locs, Pt.cells, Pt.slots] at X45 l45 y45 z45 st45 hQ45
    subst l45 y45 z45
    obtain ⟨rfl, Nq45, eH45⟩ := hQ45
    have N45 := Fr.app N44 Nq45
    refine own_st st45 ?_
    show own_Go p e below T45 (mkF m 152 #[.val (.int p0), .val (.int x0), .val (.int x1), .val (.int x2), .val (.int x3), .val (.int (3 : Int32)), .val (.ref b1), .val (.ref b16), .val (.int (2 : Int32)), .val (.int x2)] [(.int (1 : Int32))]) _
    refine own_st (fun t_ k_ => XS.ifNo X45.here hx rfl (hb hby at_152) rfl (by decide) k_) ?_
    show own_Go p e below T45 (mkF m 155 #[.val (.int p0), .val (.int x0), .val (.int x1), .val (.int x2), .val (.int x3), .val (.int (3 : Int32)), .val (.ref b1), .val (.ref b16), .val (.int (2 : Int32)), .val (.int x2)] []) _
    refine own_st (fun t_ k_ => XS.aload X45.here hx rfl (hb hby at_155) rfl rfl k_) ?_
    show own_Go p e below T45 (mkF m 157 #[.val (.int p0), .val (.int x0), .val (.int x1), .val (.int x2), .val (.int x3), .val (.int (3 : Int32)), .val (.ref b1), .val (.ref b16), .val (.int (2 : Int32)), .val (.int x2)] [(.ref b1)]) _
    refine own_st (fun t_ k_ => XS.iconst X45.here hx rfl (hb hby at_157) k_) ?_
    show own_Go p e below T45 (mkF m 158 #[.val (.int p0), .val (.int x0), .val (.int x1), .val (.int x2), .val (.int x3), .val (.int (3 : Int32)), .val (.ref b1), .val (.ref b16), .val (.int (2 : Int32)), .val (.int x2)] [(.int (3 : Int32)), (.ref b1)]) _
    refine own_st (fun t_ k_ => XS.iload X45.here hx rfl (hb hby at_158) rfl k_) ?_
    show own_Go p e below T45 (mkF m 160 #[.val (.int p0), .val (.int x0), .val (.int x1), .val (.int x2), .val (.int x3), .val (.int (3 : Int32)), .val (.ref b1), .val (.ref b16), .val (.int (2 : Int32)), .val (.int x2)] [(.int (3 : Int32)), (.int (3 : Int32)), (.ref b1)]) _
    refine own_st (fun t_ k_ => XS.iload X45.here hx rfl (hb hby at_160) rfl k_) ?_
    show own_Go p e below T45 (mkF m 162 #[.val (.int p0), .val (.int x0), .val (.int x1), .val (.int x2), .val (.int x3), .val (.int (3 : Int32)), .val (.ref b1), .val (.ref b16), .val (.int (2 : Int32)), .val (.int x2)] [(.int (2 : Int32)), (.int (3 : Int32)), (.int (3 : Int32)), (.ref b1)]) _
    refine own_st (fun t_ k_ => XS.iload X45.here hx rfl (hb hby at_162) rfl k_) ?_
    show own_Go p e below T45 (mkF m 164 #[.val (.int p0), .val (.int x0), .val (.int x1), .val (.int x2), .val (.int x3), .val (.int (3 : Int32)), .val (.ref b1), .val (.ref b16), .val (.int (2 : Int32)), .val (.int x2)] [(.int x2), (.int (2 : Int32)), (.int (3 : Int32)), (.int (3 : Int32)), (.ref b1)]) _
    obtain ⟨_, _, ⟨T46, L46, k46, n46⟩, -, X46, ⟨Lc46, hQ46, l46, y46, z46⟩, st46⟩ := Jvm.LawKit.callS X45 hx (y := (⟨"com/example/spillback/spillback/behaviour/PlanSelectorHighestPinLaw", "ok", "([IIIII)Z"⟩ : MethodName)) hown (mvT hZ (hw _ (List.mem_of_getElem? (i := 6) rfl))) (mvT hZ (hw _ (List.mem_of_getElem? (i := 7) rfl))) (mvT hZ (hw _ (List.mem_of_getElem? (i := 8) rfl))) (mvT hZ (hw _ (List.mem_of_getElem? (i := 9) rfl))) (by decide) (backOf (W := 0) (rmOk_3_3_2 l Z a0 hw [] b1 k1 _ _ x2 _ h25 n0 f27 f41) hZ (hw _ (List.mem_of_getElem? (i := 9) rfl)) (hw _ (List.mem_of_getElem? (i := 8) rfl)) (by decide) (by decide)) (g := (mkF m 164 #[.val (.int p0), .val (.int x0), .val (.int x1), .val (.int x2), .val (.int x3), .val (.int (3 : Int32)), .val (.ref b1), .val (.ref b16), .val (.int (2 : Int32)), .val (.int x2)] [(.int x2), (.int (2 : Int32)), (.int (3 : Int32)), (.int (3 : Int32)), (.ref b1)])) rfl (by rw [hml]; rfl) (argsL := [(.ref b1), (.int (3 : Int32)), (.int (3 : Int32)), (.int (2 : Int32)), (.int x2)]) (rest := []) (lenOf pd___IIIII_Z rfl) rfl (by show 2 * 0 + _ ≤ _; exact Nat.le_of_eq rfl) (hb hby at_164) (fun _ _ => ⟨rfl, eH45, (by decide : 2 + 0 ≤ _), (by decide : 7 + 0 ≤ _)⟩)
    dsimp only [Pt.U, Pt.locs, Pt.cells, Pt.slots] at X46 l46 y46 z46 st46 hQ46
    subst l46 y46 z46
    obtain ⟨rfl, Nq46, eH46⟩ := hQ46
    have N46 := Fr.app N45 Nq46
    refine own_st st46 ?_
    show own_Go p e below T46 (mkF m 167 #[.val (.int p0), .val (.int x0), .val (.int x1), .val (.int x2), .val (.int x3), .val (.int (3 : Int32)), .val (.ref b1), .val (.ref b16), .val (.int (2 : Int32)), .val (.int x2)] [(.int (1 : Int32))]) _
    refine own_st (fun t_ k_ => XS.ifNo X46.here hx rfl (hb hby at_167) rfl (by decide) k_) ?_
    show own_Go p e below T46 (mkF m 170 #[.val (.int p0), .val (.int x0), .val (.int x1), .val (.int x2), .val (.int x3), .val (.int (3 : Int32)), .val (.ref b1), .val (.ref b16), .val (.int (2 : Int32)), .val (.int x2)] []) _
    refine own_st (fun t_ k_ => XS.iconst X46.here hx rfl (hb hby at_170) k_) ?_
    show own_Go p e below T46 (mkF m 171 #[.val (.int p0), .val (.int x0), .val (.int x1), .val (.int x2), .val (.int x3), .val (.int (3 : Int32)), .val (.ref b1), .val (.ref b16), .val (.int (2 : Int32)), .val (.int x2)] [(.int (1 : Int32))]) _
    refine own_st (fun t_ k_ => XS.goto X46.here hx rfl (pc0 := 171) (pc' := 175) rfl (hb hby at_171) (by decide) (by decide) k_) ?_
    show own_Go p e below T46 (mkF m 175 #[.val (.int p0), .val (.int x0), .val (.int x1), .val (.int x2), .val (.int x3), .val (.int (3 : Int32)), .val (.ref b1), .val (.ref b16), .val (.int (2 : Int32)), .val (.int x2)] [(.int (1 : Int32))]) _
    obtain ⟨fs, hr, hrun, hended, hW, hsame⟩ := X46.leave (v := some (.int (1 : Int32))) (fun h => by rw [Bd.returns] at h; cases h)
    refine own_fin (retN X46 hx (t := .boolean) Bd.returns (by simp) (hb hby at_175) hr) ⟨hrun, hended, _, _, rfl, ?_, ⟨_, rfl⟩, hW, hsame.mono (by decide) (by decide)⟩
    show Q_rmLaw3 Z p0 x0 x1 x2 x3 h0 n0 _ T46.heap _
    rw [eH46]
    exact ⟨rfl, N46, K26⟩
theorem ef_rmOk_0_4_0 (m : MethodId) (x0 : Addr) (x1 : Int32) (x2 : Int32) (x3 : Int32) (x4 : Int32) : entryFrame m #[(.ref x0), (.int x1), (.int x2), (.int x3), (.int x4)] 5 = mkF m 0 #[.val (.ref x0), .val (.int x1), .val (.int x2), .val (.int x3), .val (.int x4)] [] := by first | (simp [entryFrame, mkF, argsToLocals, Value.category]; done) | rfl
def Q_rmOk_0_4_0 (Z : State) (a1 : Addr) (ki : ClassId) (x0 : Int32) (x1 : Int32) (x2 : Int32) (x3 : Int32) (h0 : Heap) (n0 : Nat) (v : Option Value) (h : Heap) (L : List Loc) : Prop := v = some (.int (1 : Int32)) ∧ Fr n0 L ∧ h = h0
set_option maxRecDepth 65536 in
set_option maxHeartbeats 40000000 in
theorem rmOk_0_4_0 (l : Launch) (Z : State) (a0 : Array Value) (hw : ∀ d ∈ tables_1, d.before a0 Z = true) (ws : List Jvm.Cond) (a1 : Addr) (ki : ClassId) (x0 : Int32) (x1 : Int32) (x2 : Int32) (x3 : Int32) (h0 : Heap) (n0 : Nat) (Z0 : n0 ≤ h0.size) (pV_a1 : Arv Z h0 a1 ki .int (4 : Int32) [(.int x0), (.int x1), (.int x2), (.int x3)] (.int (0 : Int32))) :
    MetFree l (⟨"com/example/spillback/spillback/behaviour/PlanSelectorHighestPinLaw", "ok", "([IIIII)Z"⟩ : MethodName) (head1 (Jvm.Cond.code (⟨"com/example/spillback/spillback/behaviour/PlanSelectorHighestPinLaw", "ok", "([IIIII)Z"⟩ : MethodName) method_3_code 5 (some .boolean) :: ws) ({ frames := 0, cells := 0, slots := 0, locals := 0 } : Room)) (fun a U => a = #[(.ref a1), (.int (0 : Int32)), (.int (4 : Int32)), (.int (0 : Int32)), (.int x0)] ∧ Z.Warmed39 U.vm ∧ U.heap = h0) (fun _ _ _ _ _ => True) (fun _ U o U' => ∃ v L, o = .returned v ∧ Q_rmOk_0_4_0 Z a1 ki x0 x1 x2 x3 h0 n0 v U'.heap L ∧ FrameEnd U o U' L ({ frames := 0, cells := 0, slots := 0, locals := 0 } : Room).cells ({ frames := 0, cells := 0, slots := 0, locals := 0 } : Room).slots) := by
  refine MetFree.of_bodySF (plainFor_of_name pn_2) hisR ?_
  intro p e s m args below meth c s₁ Bd hml0 hP hK
  obtain ⟨rfl, hZ, hh⟩ := hP
  have hx := Bd.exec
  have hby := Bd.bytes
  have hml : c.maxLocals = 5 := hml0
  have hown : s.vm.findClass "com/example/spillback/spillback/behaviour/PlanSelectorHighestPinLaw" = some m.cls := findClass_of_methodNamed Bd.named
  have hnm := (name_of_methodNamed Bd.named Bd.method).1
  have X0 : Stand p l e ({ frames := 0, cells := 0, slots := 0, locals := 0 } : Room) s m #[(.ref a1), (.int (0 : Int32)), (.int (4 : Int32)), (.int (0 : Int32)), (.int x0)] below meth c s₁ [] 0 0 := Stand.of_body Bd
  have e0 : s₁.heap = h0 := by rw [← hh, Bd.state]; rfl
  have N0 := Fr.nil n0
  refine own_enter (ef_rmOk_0_4_0 m a1 ((0 : Int32)) ((4 : Int32)) ((0 : Int32)) x0) ?_
  have hn : ¬ (x0 < x0) := by rw [Int32.lt_iff_toInt_lt]; omega
  refine own_st (fun t_ k_ => XS.iloadN X0.here hx rfl (hb hby d2_0) rfl k_) ?_
  show own_Go p e below s₁ (mkF m 1 #[.val (.ref a1), .val (.int (0 : Int32)), .val (.int (4 : Int32)), .val (.int (0 : Int32)), .val (.int x0)] [(.int (0 : Int32))]) _
  refine own_st (fun t_ k_ => XS.iloadN X0.here hx rfl (hb hby d2_1) rfl k_) ?_
  show own_Go p e below s₁ (mkF m 2 #[.val (.ref a1), .val (.int (0 : Int32)), .val (.int (4 : Int32)), .val (.int (0 : Int32)), .val (.int x0)] [(.int (4 : Int32)), (.int (0 : Int32))]) _
  refine own_st (fun t_ k_ => XS.icmpYes X0.here hx rfl (pc0 := 2) (pc' := 7) rfl (hb hby d2_2) rfl (by decide) (by decide) (by decide) k_) ?_
  show own_Go p e below s₁ (mkF m 7 #[.val (.ref a1), .val (.int (0 : Int32)), .val (.int (4 : Int32)), .val (.int (0 : Int32)), .val (.int x0)] []) _
  refine own_st (fun t_ k_ => XS.aloadN X0.here hx rfl (hb hby d2_7) rfl rfl k_) ?_
  show own_Go p e below s₁ (mkF m 8 #[.val (.ref a1), .val (.int (0 : Int32)), .val (.int (4 : Int32)), .val (.int (0 : Int32)), .val (.int x0)] [(.ref a1)]) _
  refine own_st (fun t_ k_ => XS.iloadN X0.here hx rfl (hb hby d2_8) rfl k_) ?_
  show own_Go p e below s₁ (mkF m 9 #[.val (.ref a1), .val (.int (0 : Int32)), .val (.int (4 : Int32)), .val (.int (0 : Int32)), .val (.int x0)] [(.int (0 : Int32)), (.ref a1)]) _
  obtain ⟨cl1, Ar1, q1, Sz1, Nn1, Hh1, Gg1⟩ := id pV_a1
  have hin1 : ¬ ((0 : Int32) < 0 ∨ cl1.slots.size ≤ ((0 : Int32)).toNatClampNeg) := inb_of Sz1 ⟨by decide, by decide⟩
  have hat1 : cl1.slots[((0 : Int32)).toNatClampNeg]? = some (.int x0) := Has.at Hh1 hin1 rfl
  refine own_st (fun t_ k_ => X0.iaload hx (j := (0 : Int32)) (v := (.int x0)) (by rw [e0]; exact Ar1.1) (State.isArrayOf_alike hZ.alike Ar1.2.1) Ar1.2.2 hin1 hat1 (g := (mkF m 9 #[.val (.ref a1), .val (.int (0 : Int32)), .val (.int (4 : Int32)), .val (.int (0 : Int32)), .val (.int x0)] [(.int (0 : Int32)), (.ref a1)])) rfl rfl (hb hby d2_9) _ k_) ?_
  show own_Go p e below s₁ (mkF m 10 #[.val (.ref a1), .val (.int (0 : Int32)), .val (.int (4 : Int32)), .val (.int (0 : Int32)), .val (.int x0)] [(.int x0)]) _
  refine own_st (fun t_ k_ => XS.iload X0.here hx rfl (hb hby d2_10) rfl k_) ?_
  show own_Go p e below s₁ (mkF m 12 #[.val (.ref a1), .val (.int (0 : Int32)), .val (.int (4 : Int32)), .val (.int (0 : Int32)), .val (.int x0)] [(.int x0), (.int x0)]) _
  refine own_st (fun t_ k_ => XS.icmpYes X0.here hx rfl (pc0 := 12) (pc' := 17) rfl (hb hby d2_12) rfl (flt hn).2.2.2 (by decide) (by decide) k_) ?_
  show own_Go p e below s₁ (mkF m 17 #[.val (.ref a1), .val (.int (0 : Int32)), .val (.int (4 : Int32)), .val (.int (0 : Int32)), .val (.int x0)] []) _
  refine own_st (fun t_ k_ => XS.iloadN X0.here hx rfl (hb hby d2_17) rfl k_) ?_
  show own_Go p e below s₁ (mkF m 18 #[.val (.ref a1), .val (.int (0 : Int32)), .val (.int (4 : Int32)), .val (.int (0 : Int32)), .val (.int x0)] [(.int (0 : Int32))]) _
  refine own_st (fun t_ k_ => XS.iloadN X0.here hx rfl (hb hby d2_18) rfl k_) ?_
  show own_Go p e below s₁ (mkF m 19 #[.val (.ref a1), .val (.int (0 : Int32)), .val (.int (4 : Int32)), .val (.int (0 : Int32)), .val (.int x0)] [(.int (0 : Int32)), (.int (0 : Int32))]) _
  refine own_st (fun t_ k_ => XS.icmpYes X0.here hx rfl (pc0 := 19) (pc' := 32) rfl (hb hby d2_19) rfl (by decide) (by decide) (by decide) k_) ?_
  show own_Go p e below s₁ (mkF m 32 #[.val (.ref a1), .val (.int (0 : Int32)), .val (.int (4 : Int32)), .val (.int (0 : Int32)), .val (.int x0)] []) _
  refine own_st (fun t_ k_ => XS.iconst X0.here hx rfl (hb hby d2_32) k_) ?_
  show own_Go p e below s₁ (mkF m 33 #[.val (.ref a1), .val (.int (0 : Int32)), .val (.int (4 : Int32)), .val (.int (0 : Int32)), .val (.int x0)] [(.int (1 : Int32))]) _
  obtain ⟨fs, hr, hrun, hended, hW, hsame⟩ := X0.leave (v := some (.int (1 : Int32))) (fun h => by rw [Bd.returns] at h; cases h)
  refine own_fin (retN X0 hx (t := .boolean) Bd.returns (by simp) (hb hby d2_33) hr) ⟨hrun, hended, _, _, rfl, ?_, ⟨_, rfl⟩, hW, hsame.mono (by decide) (by decide)⟩
  show Q_rmOk_0_4_0 Z a1 ki x0 x1 x2 x3 h0 n0 _ s₁.heap _
  rw [e0]
  exact ⟨rfl, N0, rfl⟩
theorem ef_rmOk_1_4_0 (m : MethodId) (x0 : Addr) (x1 : Int32) (x2 : Int32) (x3 : Int32) (x4 : Int32) : entryFrame m #[(.ref x0), (.int x1), (.int x2), (.int x3), (.int x4)] 5 = mkF m 0 #[.val (.ref x0), .val (.int x1), .val (.int x2), .val (.int x3), .val (.int x4)] [] := by first | (simp [entryFrame, mkF, argsToLocals, Value.category]; done) | rfl
def Q_rmOk_1_4_0 (Z : State) (a1 : Addr) (ki : ClassId) (x0 : Int32) (x1 : Int32) (x2 : Int32) (x3 : Int32) (h0 : Heap) (n0 : Nat) (v : Option Value) (h : Heap) (L : List Loc) : Prop := v = some (.int (1 : Int32)) ∧ Fr n0 L ∧ h = h0
set_option maxRecDepth 65536 in
set_option maxHeartbeats 40000000 in
theorem rmOk_1_4_0 (l : Launch) (Z : State) (a0 : Array Value) (hw : ∀ d ∈ tables_1, d.before a0 Z = true) (ws : List Jvm.Cond) (a1 : Addr) (ki : ClassId) (x0 : Int32) (x1 : Int32) (x2 : Int32) (x3 : Int32) (h0 : Heap) (n0 : Nat) (Z0 : n0 ≤ h0.size) (pV_a1 : Arv Z h0 a1 ki .int (4 : Int32) [(.int x0), (.int x1), (.int x2), (.int x3)] (.int (0 : Int32))) (hle : (x1.toInt ≤ x0.toInt)) :
    MetFree l (⟨"com/example/spillback/spillback/behaviour/PlanSelectorHighestPinLaw", "ok", "([IIIII)Z"⟩ : MethodName) (head1 (Jvm.Cond.code (⟨"com/example/spillback/spillback/behaviour/PlanSelectorHighestPinLaw", "ok", "([IIIII)Z"⟩ : MethodName) method_3_code 5 (some .boolean) :: ws) ({ frames := 0, cells := 0, slots := 0, locals := 0 } : Room)) (fun a U => a = #[(.ref a1), (.int (1 : Int32)), (.int (4 : Int32)), (.int (0 : Int32)), (.int x0)] ∧ Z.Warmed39 U.vm ∧ U.heap = h0) (fun _ _ _ _ _ => True) (fun _ U o U' => ∃ v L, o = .returned v ∧ Q_rmOk_1_4_0 Z a1 ki x0 x1 x2 x3 h0 n0 v U'.heap L ∧ FrameEnd U o U' L ({ frames := 0, cells := 0, slots := 0, locals := 0 } : Room).cells ({ frames := 0, cells := 0, slots := 0, locals := 0 } : Room).slots) := by
  refine MetFree.of_bodySF (plainFor_of_name pn_2) hisR ?_
  intro p e s m args below meth c s₁ Bd hml0 hP hK
  obtain ⟨rfl, hZ, hh⟩ := hP
  have hx := Bd.exec
  have hby := Bd.bytes
  have hml : c.maxLocals = 5 := hml0
  have hown : s.vm.findClass "com/example/spillback/spillback/behaviour/PlanSelectorHighestPinLaw" = some m.cls := findClass_of_methodNamed Bd.named
  have hnm := (name_of_methodNamed Bd.named Bd.method).1
  have X0 : Stand p l e ({ frames := 0, cells := 0, slots := 0, locals := 0 } : Room) s m #[(.ref a1), (.int (1 : Int32)), (.int (4 : Int32)), (.int (0 : Int32)), (.int x0)] below meth c s₁ [] 0 0 := Stand.of_body Bd
  have e0 : s₁.heap = h0 := by rw [← hh, Bd.state]; rfl
  have N0 := Fr.nil n0
  refine own_enter (ef_rmOk_1_4_0 m a1 ((1 : Int32)) ((4 : Int32)) ((0 : Int32)) x0) ?_
  have hn : ¬ (x0 < x1) := by rw [Int32.lt_iff_toInt_lt]; omega
  refine own_st (fun t_ k_ => XS.iloadN X0.here hx rfl (hb hby d2_0) rfl k_) ?_
  show own_Go p e below s₁ (mkF m 1 #[.val (.ref a1), .val (.int (1 : Int32)), .val (.int (4 : Int32)), .val (.int (0 : Int32)), .val (.int x0)] [(.int (1 : Int32))]) _
  refine own_st (fun t_ k_ => XS.iloadN X0.here hx rfl (hb hby d2_1) rfl k_) ?_
  show own_Go p e below s₁ (mkF m 2 #[.val (.ref a1), .val (.int (1 : Int32)), .val (.int (4 : Int32)), .val (.int (0 : Int32)), .val (.int x0)] [(.int (4 : Int32)), (.int (1 : Int32))]) _
  refine own_st (fun t_ k_ => XS.icmpYes X0.here hx rfl (pc0 := 2) (pc' := 7) rfl (hb hby d2_2) rfl (by decide) (by decide) (by decide) k_) ?_
  show own_Go p e below s₁ (mkF m 7 #[.val (.ref a1), .val (.int (1 : Int32)), .val (.int (4 : Int32)), .val (.int (0 : Int32)), .val (.int x0)] []) _
  refine own_st (fun t_ k_ => XS.aloadN X0.here hx rfl (hb hby d2_7) rfl rfl k_) ?_
  show own_Go p e below s₁ (mkF m 8 #[.val (.ref a1), .val (.int (1 : Int32)), .val (.int (4 : Int32)), .val (.int (0 : Int32)), .val (.int x0)] [(.ref a1)]) _
  refine own_st (fun t_ k_ => XS.iloadN X0.here hx rfl (hb hby d2_8) rfl k_) ?_
  show own_Go p e below s₁ (mkF m 9 #[.val (.ref a1), .val (.int (1 : Int32)), .val (.int (4 : Int32)), .val (.int (0 : Int32)), .val (.int x0)] [(.int (1 : Int32)), (.ref a1)]) _
  obtain ⟨cl1, Ar1, q1, Sz1, Nn1, Hh1, Gg1⟩ := id pV_a1
  have hin1 : ¬ ((1 : Int32) < 0 ∨ cl1.slots.size ≤ ((1 : Int32)).toNatClampNeg) := inb_of Sz1 ⟨by decide, by decide⟩
  have hat1 : cl1.slots[((1 : Int32)).toNatClampNeg]? = some (.int x1) := Has.at Hh1 hin1 rfl
  refine own_st (fun t_ k_ => X0.iaload hx (j := (1 : Int32)) (v := (.int x1)) (by rw [e0]; exact Ar1.1) (State.isArrayOf_alike hZ.alike Ar1.2.1) Ar1.2.2 hin1 hat1 (g := (mkF m 9 #[.val (.ref a1), .val (.int (1 : Int32)), .val (.int (4 : Int32)), .val (.int (0 : Int32)), .val (.int x0)] [(.int (1 : Int32)), (.ref a1)])) rfl rfl (hb hby d2_9) _ k_) ?_
  show own_Go p e below s₁ (mkF m 10 #[.val (.ref a1), .val (.int (1 : Int32)), .val (.int (4 : Int32)), .val (.int (0 : Int32)), .val (.int x0)] [(.int x1)]) _
  refine own_st (fun t_ k_ => XS.iload X0.here hx rfl (hb hby d2_10) rfl k_) ?_
  show own_Go p e below s₁ (mkF m 12 #[.val (.ref a1), .val (.int (1 : Int32)), .val (.int (4 : Int32)), .val (.int (0 : Int32)), .val (.int x0)] [(.int x0), (.int x1)]) _
  refine own_st (fun t_ k_ => XS.icmpYes X0.here hx rfl (pc0 := 12) (pc' := 17) rfl (hb hby d2_12) rfl (flt hn).2.2.2 (by decide) (by decide) k_) ?_
  show own_Go p e below s₁ (mkF m 17 #[.val (.ref a1), .val (.int (1 : Int32)), .val (.int (4 : Int32)), .val (.int (0 : Int32)), .val (.int x0)] []) _
  refine own_st (fun t_ k_ => XS.iloadN X0.here hx rfl (hb hby d2_17) rfl k_) ?_
  show own_Go p e below s₁ (mkF m 18 #[.val (.ref a1), .val (.int (1 : Int32)), .val (.int (4 : Int32)), .val (.int (0 : Int32)), .val (.int x0)] [(.int (1 : Int32))]) _
  refine own_st (fun t_ k_ => XS.iloadN X0.here hx rfl (hb hby d2_18) rfl k_) ?_
  show own_Go p e below s₁ (mkF m 19 #[.val (.ref a1), .val (.int (1 : Int32)), .val (.int (4 : Int32)), .val (.int (0 : Int32)), .val (.int x0)] [(.int (0 : Int32)), (.int (1 : Int32))]) _
  refine own_st (fun t_ k_ => XS.icmpYes X0.here hx rfl (pc0 := 19) (pc' := 32) rfl (hb hby d2_19) rfl (by decide) (by decide) (by decide) k_) ?_
  show own_Go p e below s₁ (mkF m 32 #[.val (.ref a1), .val (.int (1 : Int32)), .val (.int (4 : Int32)), .val (.int (0 : Int32)), .val (.int x0)] []) _
  refine own_st (fun t_ k_ => XS.iconst X0.here hx rfl (hb hby d2_32) k_) ?_
  show own_Go p e below s₁ (mkF m 33 #[.val (.ref a1), .val (.int (1 : Int32)), .val (.int (4 : Int32)), .val (.int (0 : Int32)), .val (.int x0)] [(.int (1 : Int32))]) _
  obtain ⟨fs, hr, hrun, hended, hW, hsame⟩ := X0.leave (v := some (.int (1 : Int32))) (fun h => by rw [Bd.returns] at h; cases h)
  refine own_fin (retN X0 hx (t := .boolean) Bd.returns (by simp) (hb hby d2_33) hr) ⟨hrun, hended, _, _, rfl, ?_, ⟨_, rfl⟩, hW, hsame.mono (by decide) (by decide)⟩
  show Q_rmOk_1_4_0 Z a1 ki x0 x1 x2 x3 h0 n0 _ s₁.heap _
  rw [e0]
  exact ⟨rfl, N0, rfl⟩
theorem ef_rmOk_2_4_0 (m : MethodId) (x0 : Addr) (x1 : Int32) (x2 : Int32) (x3 : Int32) (x4 : Int32) : entryFrame m #[(.ref x0), (.int x1), (.int x2), (.int x3), (.int x4)] 5 = mkF m 0 #[.val (.ref x0), .val (.int x1), .val (.int x2), .val (.int x3), .val (.int x4)] [] := by first | (simp [entryFrame, mkF, argsToLocals, Value.category]; done) | rfl
def Q_rmOk_2_4_0 (Z : State) (a1 : Addr) (ki : ClassId) (x0 : Int32) (x1 : Int32) (x2 : Int32) (x3 : Int32) (h0 : Heap) (n0 : Nat) (v : Option Value) (h : Heap) (L : List Loc) : Prop := v = some (.int (1 : Int32)) ∧ Fr n0 L ∧ h = h0
set_option maxRecDepth 65536 in
set_option maxHeartbeats 40000000 in
theorem rmOk_2_4_0 (l : Launch) (Z : State) (a0 : Array Value) (hw : ∀ d ∈ tables_1, d.before a0 Z = true) (ws : List Jvm.Cond) (a1 : Addr) (ki : ClassId) (x0 : Int32) (x1 : Int32) (x2 : Int32) (x3 : Int32) (h0 : Heap) (n0 : Nat) (Z0 : n0 ≤ h0.size) (pV_a1 : Arv Z h0 a1 ki .int (4 : Int32) [(.int x0), (.int x1), (.int x2), (.int x3)] (.int (0 : Int32))) (hle : (x2.toInt ≤ x0.toInt)) :
    MetFree l (⟨"com/example/spillback/spillback/behaviour/PlanSelectorHighestPinLaw", "ok", "([IIIII)Z"⟩ : MethodName) (head1 (Jvm.Cond.code (⟨"com/example/spillback/spillback/behaviour/PlanSelectorHighestPinLaw", "ok", "([IIIII)Z"⟩ : MethodName) method_3_code 5 (some .boolean) :: ws) ({ frames := 0, cells := 0, slots := 0, locals := 0 } : Room)) (fun a U => a = #[(.ref a1), (.int (2 : Int32)), (.int (4 : Int32)), (.int (0 : Int32)), (.int x0)] ∧ Z.Warmed39 U.vm ∧ U.heap = h0) (fun _ _ _ _ _ => True) (fun _ U o U' => ∃ v L, o = .returned v ∧ Q_rmOk_2_4_0 Z a1 ki x0 x1 x2 x3 h0 n0 v U'.heap L ∧ FrameEnd U o U' L ({ frames := 0, cells := 0, slots := 0, locals := 0 } : Room).cells ({ frames := 0, cells := 0, slots := 0, locals := 0 } : Room).slots) := by
  refine MetFree.of_bodySF (plainFor_of_name pn_2) hisR ?_
  intro p e s m args below meth c s₁ Bd hml0 hP hK
  obtain ⟨rfl, hZ, hh⟩ := hP
  have hx := Bd.exec
  have hby := Bd.bytes
  have hml : c.maxLocals = 5 := hml0
  have hown : s.vm.findClass "com/example/spillback/spillback/behaviour/PlanSelectorHighestPinLaw" = some m.cls := findClass_of_methodNamed Bd.named
  have hnm := (name_of_methodNamed Bd.named Bd.method).1
  have X0 : Stand p l e ({ frames := 0, cells := 0, slots := 0, locals := 0 } : Room) s m #[(.ref a1), (.int (2 : Int32)), (.int (4 : Int32)), (.int (0 : Int32)), (.int x0)] below meth c s₁ [] 0 0 := Stand.of_body Bd
  have e0 : s₁.heap = h0 := by rw [← hh, Bd.state]; rfl
  have N0 := Fr.nil n0
  refine own_enter (ef_rmOk_2_4_0 m a1 ((2 : Int32)) ((4 : Int32)) ((0 : Int32)) x0) ?_
  have hn : ¬ (x0 < x2) := by rw [Int32.lt_iff_toInt_lt]; omega
  refine own_st (fun t_ k_ => XS.iloadN X0.here hx rfl (hb hby d2_0) rfl k_) ?_
  show own_Go p e below s₁ (mkF m 1 #[.val (.ref a1), .val (.int (2 : Int32)), .val (.int (4 : Int32)), .val (.int (0 : Int32)), .val (.int x0)] [(.int (2 : Int32))]) _
  refine own_st (fun t_ k_ => XS.iloadN X0.here hx rfl (hb hby d2_1) rfl k_) ?_
  show own_Go p e below s₁ (mkF m 2 #[.val (.ref a1), .val (.int (2 : Int32)), .val (.int (4 : Int32)), .val (.int (0 : Int32)), .val (.int x0)] [(.int (4 : Int32)), (.int (2 : Int32))]) _
  refine own_st (fun t_ k_ => XS.icmpYes X0.here hx rfl (pc0 := 2) (pc' := 7) rfl (hb hby d2_2) rfl (by decide) (by decide) (by decide) k_) ?_
  show own_Go p e below s₁ (mkF m 7 #[.val (.ref a1), .val (.int (2 : Int32)), .val (.int (4 : Int32)), .val (.int (0 : Int32)), .val (.int x0)] []) _
  refine own_st (fun t_ k_ => XS.aloadN X0.here hx rfl (hb hby d2_7) rfl rfl k_) ?_
  show own_Go p e below s₁ (mkF m 8 #[.val (.ref a1), .val (.int (2 : Int32)), .val (.int (4 : Int32)), .val (.int (0 : Int32)), .val (.int x0)] [(.ref a1)]) _
  refine own_st (fun t_ k_ => XS.iloadN X0.here hx rfl (hb hby d2_8) rfl k_) ?_
  show own_Go p e below s₁ (mkF m 9 #[.val (.ref a1), .val (.int (2 : Int32)), .val (.int (4 : Int32)), .val (.int (0 : Int32)), .val (.int x0)] [(.int (2 : Int32)), (.ref a1)]) _
  obtain ⟨cl1, Ar1, q1, Sz1, Nn1, Hh1, Gg1⟩ := id pV_a1
  have hin1 : ¬ ((2 : Int32) < 0 ∨ cl1.slots.size ≤ ((2 : Int32)).toNatClampNeg) := inb_of Sz1 ⟨by decide, by decide⟩
  have hat1 : cl1.slots[((2 : Int32)).toNatClampNeg]? = some (.int x2) := Has.at Hh1 hin1 rfl
  refine own_st (fun t_ k_ => X0.iaload hx (j := (2 : Int32)) (v := (.int x2)) (by rw [e0]; exact Ar1.1) (State.isArrayOf_alike hZ.alike Ar1.2.1) Ar1.2.2 hin1 hat1 (g := (mkF m 9 #[.val (.ref a1), .val (.int (2 : Int32)), .val (.int (4 : Int32)), .val (.int (0 : Int32)), .val (.int x0)] [(.int (2 : Int32)), (.ref a1)])) rfl rfl (hb hby d2_9) _ k_) ?_
  show own_Go p e below s₁ (mkF m 10 #[.val (.ref a1), .val (.int (2 : Int32)), .val (.int (4 : Int32)), .val (.int (0 : Int32)), .val (.int x0)] [(.int x2)]) _
  refine own_st (fun t_ k_ => XS.iload X0.here hx rfl (hb hby d2_10) rfl k_) ?_
  show own_Go p e below s₁ (mkF m 12 #[.val (.ref a1), .val (.int (2 : Int32)), .val (.int (4 : Int32)), .val (.int (0 : Int32)), .val (.int x0)] [(.int x0), (.int x2)]) _
  refine own_st (fun t_ k_ => XS.icmpYes X0.here hx rfl (pc0 := 12) (pc' := 17) rfl (hb hby d2_12) rfl (flt hn).2.2.2 (by decide) (by decide) k_) ?_
  show own_Go p e below s₁ (mkF m 17 #[.val (.ref a1), .val (.int (2 : Int32)), .val (.int (4 : Int32)), .val (.int (0 : Int32)), .val (.int x0)] []) _
  refine own_st (fun t_ k_ => XS.iloadN X0.here hx rfl (hb hby d2_17) rfl k_) ?_
  show own_Go p e below s₁ (mkF m 18 #[.val (.ref a1), .val (.int (2 : Int32)), .val (.int (4 : Int32)), .val (.int (0 : Int32)), .val (.int x0)] [(.int (2 : Int32))]) _
  refine own_st (fun t_ k_ => XS.iloadN X0.here hx rfl (hb hby d2_18) rfl k_) ?_
  show own_Go p e below s₁ (mkF m 19 #[.val (.ref a1), .val (.int (2 : Int32)), .val (.int (4 : Int32)), .val (.int (0 : Int32)), .val (.int x0)] [(.int (0 : Int32)), (.int (2 : Int32))]) _
  refine own_st (fun t_ k_ => XS.icmpYes X0.here hx rfl (pc0 := 19) (pc' := 32) rfl (hb hby d2_19) rfl (by decide) (by decide) (by decide) k_) ?_
  show own_Go p e below s₁ (mkF m 32 #[.val (.ref a1), .val (.int (2 : Int32)), .val (.int (4 : Int32)), .val (.int (0 : Int32)), .val (.int x0)] []) _
  refine own_st (fun t_ k_ => XS.iconst X0.here hx rfl (hb hby d2_32) k_) ?_
  show own_Go p e below s₁ (mkF m 33 #[.val (.ref a1), .val (.int (2 : Int32)), .val (.int (4 : Int32)), .val (.int (0 : Int32)), .val (.int x0)] [(.int (1 : Int32))]) _
  obtain ⟨fs, hr, hrun, hended, hW, hsame⟩ := X0.leave (v := some (.int (1 : Int32))) (fun h => by rw [Bd.returns] at h; cases h)
  refine own_fin (retN X0 hx (t := .boolean) Bd.returns (by simp) (hb hby d2_33) hr) ⟨hrun, hended, _, _, rfl, ?_, ⟨_, rfl⟩, hW, hsame.mono (by decide) (by decide)⟩
  show Q_rmOk_2_4_0 Z a1 ki x0 x1 x2 x3 h0 n0 _ s₁.heap _
  rw [e0]
  exact ⟨rfl, N0, rfl⟩
theorem ef_rmOk_3_4_0 (m : MethodId) (x0 : Addr) (x1 : Int32) (x2 : Int32) (x3 : Int32) (x4 : Int32) : entryFrame m #[(.ref x0), (.int x1), (.int x2), (.int x3), (.int x4)] 5 = mkF m 0 #[.val (.ref x0), .val (.int x1), .val (.int x2), .val (.int x3), .val (.int x4)] [] := by first | (simp [entryFrame, mkF, argsToLocals, Value.category]; done) | rfl
def Q_rmOk_3_4_0 (Z : State) (a1 : Addr) (ki : ClassId) (x0 : Int32) (x1 : Int32) (x2 : Int32) (x3 : Int32) (h0 : Heap) (n0 : Nat) (v : Option Value) (h : Heap) (L : List Loc) : Prop := v = some (.int (1 : Int32)) ∧ Fr n0 L ∧ h = h0
set_option maxRecDepth 65536 in
set_option maxHeartbeats 40000000 in
theorem rmOk_3_4_0 (l : Launch) (Z : State) (a0 : Array Value) (hw : ∀ d ∈ tables_1, d.before a0 Z = true) (ws : List Jvm.Cond) (a1 : Addr) (ki : ClassId) (x0 : Int32) (x1 : Int32) (x2 : Int32) (x3 : Int32) (h0 : Heap) (n0 : Nat) (Z0 : n0 ≤ h0.size) (pV_a1 : Arv Z h0 a1 ki .int (4 : Int32) [(.int x0), (.int x1), (.int x2), (.int x3)] (.int (0 : Int32))) (hle : (x3.toInt ≤ x0.toInt)) :
    MetFree l (⟨"com/example/spillback/spillback/behaviour/PlanSelectorHighestPinLaw", "ok", "([IIIII)Z"⟩ : MethodName) (head1 (Jvm.Cond.code (⟨"com/example/spillback/spillback/behaviour/PlanSelectorHighestPinLaw", "ok", "([IIIII)Z"⟩ : MethodName) method_3_code 5 (some .boolean) :: ws) ({ frames := 0, cells := 0, slots := 0, locals := 0 } : Room)) (fun a U => a = #[(.ref a1), (.int (3 : Int32)), (.int (4 : Int32)), (.int (0 : Int32)), (.int x0)] ∧ Z.Warmed39 U.vm ∧ U.heap = h0) (fun _ _ _ _ _ => True) (fun _ U o U' => ∃ v L, o = .returned v ∧ Q_rmOk_3_4_0 Z a1 ki x0 x1 x2 x3 h0 n0 v U'.heap L ∧ FrameEnd U o U' L ({ frames := 0, cells := 0, slots := 0, locals := 0 } : Room).cells ({ frames := 0, cells := 0, slots := 0, locals := 0 } : Room).slots) := by
  refine MetFree.of_bodySF (plainFor_of_name pn_2) hisR ?_
  intro p e s m args below meth c s₁ Bd hml0 hP hK
  obtain ⟨rfl, hZ, hh⟩ := hP
  have hx := Bd.exec
  have hby := Bd.bytes
  have hml : c.maxLocals = 5 := hml0
  have hown : s.vm.findClass "com/example/spillback/spillback/behaviour/PlanSelectorHighestPinLaw" = some m.cls := findClass_of_methodNamed Bd.named
  have hnm := (name_of_methodNamed Bd.named Bd.method).1
  have X0 : Stand p l e ({ frames := 0, cells := 0, slots := 0, locals := 0 } : Room) s m #[(.ref a1), (.int (3 : Int32)), (.int (4 : Int32)), (.int (0 : Int32)), (.int x0)] below meth c s₁ [] 0 0 := Stand.of_body Bd
  have e0 : s₁.heap = h0 := by rw [← hh, Bd.state]; rfl
  have N0 := Fr.nil n0
  refine own_enter (ef_rmOk_3_4_0 m a1 ((3 : Int32)) ((4 : Int32)) ((0 : Int32)) x0) ?_
  have hn : ¬ (x0 < x3) := by rw [Int32.lt_iff_toInt_lt]; omega
  refine own_st (fun t_ k_ => XS.iloadN X0.here hx rfl (hb hby d2_0) rfl k_) ?_
  show own_Go p e below s₁ (mkF m 1 #[.val (.ref a1), .val (.int (3 : Int32)), .val (.int (4 : Int32)), .val (.int (0 : Int32)), .val (.int x0)] [(.int (3 : Int32))]) _
  refine own_st (fun t_ k_ => XS.iloadN X0.here hx rfl (hb hby d2_1) rfl k_) ?_
  show own_Go p e below s₁ (mkF m 2 #[.val (.ref a1), .val (.int (3 : Int32)), .val (.int (4 : Int32)), .val (.int (0 : Int32)), .val (.int x0)] [(.int (4 : Int32)), (.int (3 : Int32))]) _
  refine own_st (fun t_ k_ => XS.icmpYes X0.here hx rfl (pc0 := 2) (pc' := 7) rfl (hb hby d2_2) rfl (by decide) (by decide) (by decide) k_) ?_
  show own_Go p e below s₁ (mkF m 7 #[.val (.ref a1), .val (.int (3 : Int32)), .val (.int (4 : Int32)), .val (.int (0 : Int32)), .val (.int x0)] []) _
  refine own_st (fun t_ k_ => XS.aloadN X0.here hx rfl (hb hby d2_7) rfl rfl k_) ?_
  show own_Go p e below s₁ (mkF m 8 #[.val (.ref a1), .val (.int (3 : Int32)), .val (.int (4 : Int32)), .val (.int (0 : Int32)), .val (.int x0)] [(.ref a1)]) _
  refine own_st (fun t_ k_ => XS.iloadN X0.here hx rfl (hb hby d2_8) rfl k_) ?_
  show own_Go p e below s₁ (mkF m 9 #[.val (.ref a1), .val (.int (3 : Int32)), .val (.int (4 : Int32)), .val (.int (0 : Int32)), .val (.int x0)] [(.int (3 : Int32)), (.ref a1)]) _
  obtain ⟨cl1, Ar1, q1, Sz1, Nn1, Hh1, Gg1⟩ := id pV_a1
  have hin1 : ¬ ((3 : Int32) < 0 ∨ cl1.slots.size ≤ ((3 : Int32)).toNatClampNeg) := inb_of Sz1 ⟨by decide, by decide⟩
  have hat1 : cl1.slots[((3 : Int32)).toNatClampNeg]? = some (.int x3) := Has.at Hh1 hin1 rfl
  refine own_st (fun t_ k_ => X0.iaload hx (j := (3 : Int32)) (v := (.int x3)) (by rw [e0]; exact Ar1.1) (State.isArrayOf_alike hZ.alike Ar1.2.1) Ar1.2.2 hin1 hat1 (g := (mkF m 9 #[.val (.ref a1), .val (.int (3 : Int32)), .val (.int (4 : Int32)), .val (.int (0 : Int32)), .val (.int x0)] [(.int (3 : Int32)), (.ref a1)])) rfl rfl (hb hby d2_9) _ k_) ?_
  show own_Go p e below s₁ (mkF m 10 #[.val (.ref a1), .val (.int (3 : Int32)), .val (.int (4 : Int32)), .val (.int (0 : Int32)), .val (.int x0)] [(.int x3)]) _
  refine own_st (fun t_ k_ => XS.iload X0.here hx rfl (hb hby d2_10) rfl k_) ?_
  show own_Go p e below s₁ (mkF m 12 #[.val (.ref a1), .val (.int (3 : Int32)), .val (.int (4 : Int32)), .val (.int (0 : Int32)), .val (.int x0)] [(.int x0), (.int x3)]) _
  refine own_st (fun t_ k_ => XS.icmpYes X0.here hx rfl (pc0 := 12) (pc' := 17) rfl (hb hby d2_12) rfl (flt hn).2.2.2 (by decide) (by decide) k_) ?_
  show own_Go p e below s₁ (mkF m 17 #[.val (.ref a1), .val (.int (3 : Int32)), .val (.int (4 : Int32)), .val (.int (0 : Int32)), .val (.int x0)] []) _
  refine own_st (fun t_ k_ => XS.iloadN X0.here hx rfl (hb hby d2_17) rfl k_) ?_
  show own_Go p e below s₁ (mkF m 18 #[.val (.ref a1), .val (.int (3 : Int32)), .val (.int (4 : Int32)), .val (.int (0 : Int32)), .val (.int x0)] [(.int (3 : Int32))]) _
  refine own_st (fun t_ k_ => XS.iloadN X0.here hx rfl (hb hby d2_18) rfl k_) ?_
  show own_Go p e below s₁ (mkF m 19 #[.val (.ref a1), .val (.int (3 : Int32)), .val (.int (4 : Int32)), .val (.int (0 : Int32)), .val (.int x0)] [(.int (0 : Int32)), (.int (3 : Int32))]) _
  refine own_st (fun t_ k_ => XS.icmpYes X0.here hx rfl (pc0 := 19) (pc' := 32) rfl (hb hby d2_19) rfl (by decide) (by decide) (by decide) k_) ?_
  show own_Go p e below s₁ (mkF m 32 #[.val (.ref a1), .val (.int (3 : Int32)), .val (.int (4 : Int32)), .val (.int (0 : Int32)), .val (.int x0)] []) _
  refine own_st (fun t_ k_ => XS.iconst X0.here hx rfl (hb hby d2_32) k_) ?_
  show own_Go p e below s₁ (mkF m 33 #[.val (.ref a1), .val (.int (3 : Int32)), .val (.int (4 : Int32)), .val (.int (0 : Int32)), .val (.int x0)] [(.int (1 : Int32))]) _
  obtain ⟨fs, hr, hrun, hended, hW, hsame⟩ := X0.leave (v := some (.int (1 : Int32))) (fun h => by rw [Bd.returns] at h; cases h)
  refine own_fin (retN X0 hx (t := .boolean) Bd.returns (by simp) (hb hby d2_33) hr) ⟨hrun, hended, _, _, rfl, ?_, ⟨_, rfl⟩, hW, hsame.mono (by decide) (by decide)⟩
  show Q_rmOk_3_4_0 Z a1 ki x0 x1 x2 x3 h0 n0 _ s₁.heap _
  rw [e0]
  exact ⟨rfl, N0, rfl⟩
theorem ef_rmOk_0_4_1 (m : MethodId) (x0 : Addr) (x1 : Int32) (x2 : Int32) (x3 : Int32) (x4 : Int32) : entryFrame m #[(.ref x0), (.int x1), (.int x2), (.int x3), (.int x4)] 5 = mkF m 0 #[.val (.ref x0), .val (.int x1), .val (.int x2), .val (.int x3), .val (.int x4)] [] := by first | (simp [entryFrame, mkF, argsToLocals, Value.category]; done) | rfl
def Q_rmOk_0_4_1 (Z : State) (a1 : Addr) (ki : ClassId) (x0 : Int32) (x1 : Int32) (x2 : Int32) (x3 : Int32) (h0 : Heap) (n0 : Nat) (v : Option Value) (h : Heap) (L : List Loc) : Prop := v = some (.int (1 : Int32)) ∧ Fr n0 L ∧ h = h0
set_option maxRecDepth 65536 in
set_option maxHeartbeats 40000000 in
theorem rmOk_0_4_1 (l : Launch) (Z : State) (a0 : Array Value) (hw : ∀ d ∈ tables_1, d.before a0 Z = true) (ws : List Jvm.Cond) (a1 : Addr) (ki : ClassId) (x0 : Int32) (x1 : Int32) (x2 : Int32) (x3 : Int32) (h0 : Heap) (n0 : Nat) (Z0 : n0 ≤ h0.size) (pV_a1 : Arv Z h0 a1 ki .int (4 : Int32) [(.int x0), (.int x1), (.int x2), (.int x3)] (.int (0 : Int32))) (hle : (x0.toInt < x1.toInt)) :
    MetFree l (⟨"com/example/spillback/spillback/behaviour/PlanSelectorHighestPinLaw", "ok", "([IIIII)Z"⟩ : MethodName) (head1 (Jvm.Cond.code (⟨"com/example/spillback/spillback/behaviour/PlanSelectorHighestPinLaw", "ok", "([IIIII)Z"⟩ : MethodName) method_3_code 5 (some .boolean) :: ws) ({ frames := 0, cells := 0, slots := 0, locals := 0 } : Room)) (fun a U => a = #[(.ref a1), (.int (0 : Int32)), (.int (4 : Int32)), (.int (1 : Int32)), (.int x1)] ∧ Z.Warmed39 U.vm ∧ U.heap = h0) (fun _ _ _ _ _ => True) (fun _ U o U' => ∃ v L, o = .returned v ∧ Q_rmOk_0_4_1 Z a1 ki x0 x1 x2 x3 h0 n0 v U'.heap L ∧ FrameEnd U o U' L ({ frames := 0, cells := 0, slots := 0, locals := 0 } : Room).cells ({ frames := 0, cells := 0, slots := 0, locals := 0 } : Room).slots) := by
  refine MetFree.of_bodySF (plainFor_of_name pn_2) hisR ?_
  intro p e s m args below meth c s₁ Bd hml0 hP hK
  obtain ⟨rfl, hZ, hh⟩ := hP
  have hx := Bd.exec
  have hby := Bd.bytes
  have hml : c.maxLocals = 5 := hml0
  have hown : s.vm.findClass "com/example/spillback/spillback/behaviour/PlanSelectorHighestPinLaw" = some m.cls := findClass_of_methodNamed Bd.named
  have hnm := (name_of_methodNamed Bd.named Bd.method).1
  have X0 : Stand p l e ({ frames := 0, cells := 0, slots := 0, locals := 0 } : Room) s m #[(.ref a1), (.int (0 : Int32)), (.int (4 : Int32)), (.int (1 : Int32)), (.int x1)] below meth c s₁ [] 0 0 := Stand.of_body Bd
  have e0 : s₁.heap = h0 := by rw [← hh, Bd.state]; rfl
  have N0 := Fr.nil n0
  refine own_enter (ef_rmOk_0_4_1 m a1 ((0 : Int32)) ((4 : Int32)) ((1 : Int32)) x1) ?_
  have hn : ¬ (x1 < x0) := by rw [Int32.lt_iff_toInt_lt]; omega
  have hd : ¬ (x0 = x1) := fun q => by subst q; omega
  refine own_st (fun t_ k_ => XS.iloadN X0.here hx rfl (hb hby d2_0) rfl k_) ?_
  show own_Go p e below s₁ (mkF m 1 #[.val (.ref a1), .val (.int (0 : Int32)), .val (.int (4 : Int32)), .val (.int (1 : Int32)), .val (.int x1)] [(.int (0 : Int32))]) _
  refine own_st (fun t_ k_ => XS.iloadN X0.here hx rfl (hb hby d2_1) rfl k_) ?_
  show own_Go p e below s₁ (mkF m 2 #[.val (.ref a1), .val (.int (0 : Int32)), .val (.int (4 : Int32)), .val (.int (1 : Int32)), .val (.int x1)] [(.int (4 : Int32)), (.int (0 : Int32))]) _
  refine own_st (fun t_ k_ => XS.icmpYes X0.here hx rfl (pc0 := 2) (pc' := 7) rfl (hb hby d2_2) rfl (by decide) (by decide) (by decide) k_) ?_
  show own_Go p e below s₁ (mkF m 7 #[.val (.ref a1), .val (.int (0 : Int32)), .val (.int (4 : Int32)), .val (.int (1 : Int32)), .val (.int x1)] []) _
  refine own_st (fun t_ k_ => XS.aloadN X0.here hx rfl (hb hby d2_7) rfl rfl k_) ?_
  show own_Go p e below s₁ (mkF m 8 #[.val (.ref a1), .val (.int (0 : Int32)), .val (.int (4 : Int32)), .val (.int (1 : Int32)), .val (.int x1)] [(.ref a1)]) _
  refine own_st (fun t_ k_ => XS.iloadN X0.here hx rfl (hb hby d2_8) rfl k_) ?_
  show own_Go p e below s₁ (mkF m 9 #[.val (.ref a1), .val (.int (0 : Int32)), .val (.int (4 : Int32)), .val (.int (1 : Int32)), .val (.int x1)] [(.int (0 : Int32)), (.ref a1)]) _
  obtain ⟨cl1, Ar1, q1, Sz1, Nn1, Hh1, Gg1⟩ := id pV_a1
  have hin1 : ¬ ((0 : Int32) < 0 ∨ cl1.slots.size ≤ ((0 : Int32)).toNatClampNeg) := inb_of Sz1 ⟨by decide, by decide⟩
  have hat1 : cl1.slots[((0 : Int32)).toNatClampNeg]? = some (.int x0) := Has.at Hh1 hin1 rfl
  refine own_st (fun t_ k_ => X0.iaload hx (j := (0 : Int32)) (v := (.int x0)) (by rw [e0]; exact Ar1.1) (State.isArrayOf_alike hZ.alike Ar1.2.1) Ar1.2.2 hin1 hat1 (g := (mkF m 9 #[.val (.ref a1), .val (.int (0 : Int32)), .val (.int (4 : Int32)), .val (.int (1 : Int32)), .val (.int x1)] [(.int (0 : Int32)), (.ref a1)])) rfl rfl (hb hby d2_9) _ k_) ?_
  show own_Go p e below s₁ (mkF m 10 #[.val (.ref a1), .val (.int (0 : Int32)), .val (.int (4 : Int32)), .val (.int (1 : Int32)), .val (.int x1)] [(.int x0)]) _
  refine own_st (fun t_ k_ => XS.iload X0.here hx rfl (hb hby d2_10) rfl k_) ?_
  show own_Go p e below s₁ (mkF m 12 #[.val (.ref a1), .val (.int (0 : Int32)), .val (.int (4 : Int32)), .val (.int (1 : Int32)), .val (.int x1)] [(.int x1), (.int x0)]) _
  refine own_st (fun t_ k_ => XS.icmpYes X0.here hx rfl (pc0 := 12) (pc' := 17) rfl (hb hby d2_12) rfl (flt hn).2.2.2 (by decide) (by decide) k_) ?_
  show own_Go p e below s₁ (mkF m 17 #[.val (.ref a1), .val (.int (0 : Int32)), .val (.int (4 : Int32)), .val (.int (1 : Int32)), .val (.int x1)] []) _
  refine own_st (fun t_ k_ => XS.iloadN X0.here hx rfl (hb hby d2_17) rfl k_) ?_
  show own_Go p e below s₁ (mkF m 18 #[.val (.ref a1), .val (.int (0 : Int32)), .val (.int (4 : Int32)), .val (.int (1 : Int32)), .val (.int x1)] [(.int (0 : Int32))]) _
  refine own_st (fun t_ k_ => XS.iloadN X0.here hx rfl (hb hby d2_18) rfl k_) ?_
  show own_Go p e below s₁ (mkF m 19 #[.val (.ref a1), .val (.int (0 : Int32)), .val (.int (4 : Int32)), .val (.int (1 : Int32)), .val (.int x1)] [(.int (1 : Int32)), (.int (0 : Int32))]) _
  refine own_st (fun t_ k_ => XS.icmpNo X0.here hx rfl (hb hby d2_19) rfl (by decide) k_) ?_
  show own_Go p e below s₁ (mkF m 22 #[.val (.ref a1), .val (.int (0 : Int32)), .val (.int (4 : Int32)), .val (.int (1 : Int32)), .val (.int x1)] []) _
  refine own_st (fun t_ k_ => XS.aloadN X0.here hx rfl (hb hby d2_22) rfl rfl k_) ?_
  show own_Go p e below s₁ (mkF m 23 #[.val (.ref a1), .val (.int (0 : Int32)), .val (.int (4 : Int32)), .val (.int (1 : Int32)), .val (.int x1)] [(.ref a1)]) _
  refine own_st (fun t_ k_ => XS.iloadN X0.here hx rfl (hb hby d2_23) rfl k_) ?_
  show own_Go p e below s₁ (mkF m 24 #[.val (.ref a1), .val (.int (0 : Int32)), .val (.int (4 : Int32)), .val (.int (1 : Int32)), .val (.int x1)] [(.int (0 : Int32)), (.ref a1)]) _
  obtain ⟨cl2, Ar2, q2, Sz2, Nn2, Hh2, Gg2⟩ := id pV_a1
  have hin2 : ¬ ((0 : Int32) < 0 ∨ cl2.slots.size ≤ ((0 : Int32)).toNatClampNeg) := inb_of Sz2 ⟨by decide, by decide⟩
  have hat2 : cl2.slots[((0 : Int32)).toNatClampNeg]? = some (.int x0) := Has.at Hh2 hin2 rfl
  refine own_st (fun t_ k_ => X0.iaload hx (j := (0 : Int32)) (v := (.int x0)) (by rw [e0]; exact Ar2.1) (State.isArrayOf_alike hZ.alike Ar2.2.1) Ar2.2.2 hin2 hat2 (g := (mkF m 24 #[.val (.ref a1), .val (.int (0 : Int32)), .val (.int (4 : Int32)), .val (.int (1 : Int32)), .val (.int x1)] [(.int (0 : Int32)), (.ref a1)])) rfl rfl (hb hby d2_24) _ k_) ?_
  show own_Go p e below s₁ (mkF m 25 #[.val (.ref a1), .val (.int (0 : Int32)), .val (.int (4 : Int32)), .val (.int (1 : Int32)), .val (.int x1)] [(.int x0)]) _
  refine own_st (fun t_ k_ => XS.iload X0.here hx rfl (hb hby d2_25) rfl k_) ?_
  show own_Go p e below s₁ (mkF m 27 #[.val (.ref a1), .val (.int (0 : Int32)), .val (.int (4 : Int32)), .val (.int (1 : Int32)), .val (.int x1)] [(.int x1), (.int x0)]) _
  refine own_st (fun t_ k_ => XS.icmpYes X0.here hx rfl (pc0 := 27) (pc' := 32) rfl (hb hby d2_27) rfl (feq hd).2 (by decide) (by decide) k_) ?_
  show own_Go p e below s₁ (mkF m 32 #[.val (.ref a1), .val (.int (0 : Int32)), .val (.int (4 : Int32)), .val (.int (1 : Int32)), .val (.int x1)] []) _
  refine own_st (fun t_ k_ => XS.iconst X0.here hx rfl (hb hby d2_32) k_) ?_
  show own_Go p e below s₁ (mkF m 33 #[.val (.ref a1), .val (.int (0 : Int32)), .val (.int (4 : Int32)), .val (.int (1 : Int32)), .val (.int x1)] [(.int (1 : Int32))]) _
  obtain ⟨fs, hr, hrun, hended, hW, hsame⟩ := X0.leave (v := some (.int (1 : Int32))) (fun h => by rw [Bd.returns] at h; cases h)
  refine own_fin (retN X0 hx (t := .boolean) Bd.returns (by simp) (hb hby d2_33) hr) ⟨hrun, hended, _, _, rfl, ?_, ⟨_, rfl⟩, hW, hsame.mono (by decide) (by decide)⟩
  show Q_rmOk_0_4_1 Z a1 ki x0 x1 x2 x3 h0 n0 _ s₁.heap _
  rw [e0]
  exact ⟨rfl, N0, rfl⟩
theorem ef_rmOk_1_4_1 (m : MethodId) (x0 : Addr) (x1 : Int32) (x2 : Int32) (x3 : Int32) (x4 : Int32) : entryFrame m #[(.ref x0), (.int x1), (.int x2), (.int x3), (.int x4)] 5 = mkF m 0 #[.val (.ref x0), .val (.int x1), .val (.int x2), .val (.int x3), .val (.int x4)] [] := by first | (simp [entryFrame, mkF, argsToLocals, Value.category]; done) | rfl
def Q_rmOk_1_4_1 (Z : State) (a1 : Addr) (ki : ClassId) (x0 : Int32) (x1 : Int32) (x2 : Int32) (x3 : Int32) (h0 : Heap) (n0 : Nat) (v : Option Value) (h : Heap) (L : List Loc) : Prop := v = some (.int (1 : Int32)) ∧ Fr n0 L ∧ h = h0
set_option maxRecDepth 65536 in
set_option maxHeartbeats 40000000 in
theorem rmOk_1_4_1 (l : Launch) (Z : State) (a0 : Array Value) (hw : ∀ d ∈ tables_1, d.before a0 Z = true) (ws : List Jvm.Cond) (a1 : Addr) (ki : ClassId) (x0 : Int32) (x1 : Int32) (x2 : Int32) (x3 : Int32) (h0 : Heap) (n0 : Nat) (Z0 : n0 ≤ h0.size) (pV_a1 : Arv Z h0 a1 ki .int (4 : Int32) [(.int x0), (.int x1), (.int x2), (.int x3)] (.int (0 : Int32))) :
    MetFree l (⟨"com/example/spillback/spillback/behaviour/PlanSelectorHighestPinLaw", "ok", "([IIIII)Z"⟩ : MethodName) (head1 (Jvm.Cond.code (⟨"com/example/spillback/spillback/behaviour/PlanSelectorHighestPinLaw", "ok", "([IIIII)Z"⟩ : MethodName) method_3_code 5 (some .boolean) :: ws) ({ frames := 0, cells := 0, slots := 0, locals := 0 } : Room)) (fun a U => a = #[(.ref a1), (.int (1 : Int32)), (.int (4 : Int32)), (.int (1 : Int32)), (.int x1)] ∧ Z.Warmed39 U.vm ∧ U.heap = h0) (fun _ _ _ _ _ => True) (fun _ U o U' => ∃ v L, o = .returned v ∧ Q_rmOk_1_4_1 Z a1 ki x0 x1 x2 x3 h0 n0 v U'.heap L ∧ FrameEnd U o U' L ({ frames := 0, cells := 0, slots := 0, locals := 0 } : Room).cells ({ frames := 0, cells := 0, slots := 0, locals := 0 } : Room).slots) := by
  refine MetFree.of_bodySF (plainFor_of_name pn_2) hisR ?_
  intro p e s m args below meth c s₁ Bd hml0 hP hK
  obtain ⟨rfl, hZ, hh⟩ := hP
  have hx := Bd.exec
  have hby := Bd.bytes
  have hml : c.maxLocals = 5 := hml0
  have hown : s.vm.findClass "com/example/spillback/spillback/behaviour/PlanSelectorHighestPinLaw" = some m.cls := findClass_of_methodNamed Bd.named
  have hnm := (name_of_methodNamed Bd.named Bd.method).1
  have X0 : Stand p l e ({ frames := 0, cells := 0, slots := 0, locals := 0 } : Room) s m #[(.ref a1), (.int (1 : Int32)), (.int (4 : Int32)), (.int (1 : Int32)), (.int x1)] below meth c s₁ [] 0 0 := Stand.of_body Bd
  have e0 : s₁.heap = h0 := by rw [← hh, Bd.state]; rfl
  have N0 := Fr.nil n0
  refine own_enter (ef_rmOk_1_4_1 m a1 ((1 : Int32)) ((4 : Int32)) ((1 : Int32)) x1) ?_
  have hn : ¬ (x1 < x1) := by rw [Int32.lt_iff_toInt_lt]; omega
  refine own_st (fun t_ k_ => XS.iloadN X0.here hx rfl (hb hby d2_0) rfl k_) ?_
  show own_Go p e below s₁ (mkF m 1 #[.val (.ref a1), .val (.int (1 : Int32)), .val (.int (4 : Int32)), .val (.int (1 : Int32)), .val (.int x1)] [(.int (1 : Int32))]) _
  refine own_st (fun t_ k_ => XS.iloadN X0.here hx rfl (hb hby d2_1) rfl k_) ?_
  show own_Go p e below s₁ (mkF m 2 #[.val (.ref a1), .val (.int (1 : Int32)), .val (.int (4 : Int32)), .val (.int (1 : Int32)), .val (.int x1)] [(.int (4 : Int32)), (.int (1 : Int32))]) _
  refine own_st (fun t_ k_ => XS.icmpYes X0.here hx rfl (pc0 := 2) (pc' := 7) rfl (hb hby d2_2) rfl (by decide) (by decide) (by decide) k_) ?_
  show own_Go p e below s₁ (mkF m 7 #[.val (.ref a1), .val (.int (1 : Int32)), .val (.int (4 : Int32)), .val (.int (1 : Int32)), .val (.int x1)] []) _
  refine own_st (fun t_ k_ => XS.aloadN X0.here hx rfl (hb hby d2_7) rfl rfl k_) ?_
  show own_Go p e below s₁ (mkF m 8 #[.val (.ref a1), .val (.int (1 : Int32)), .val (.int (4 : Int32)), .val (.int (1 : Int32)), .val (.int x1)] [(.ref a1)]) _
  refine own_st (fun t_ k_ => XS.iloadN X0.here hx rfl (hb hby d2_8) rfl k_) ?_
  show own_Go p e below s₁ (mkF m 9 #[.val (.ref a1), .val (.int (1 : Int32)), .val (.int (4 : Int32)), .val (.int (1 : Int32)), .val (.int x1)] [(.int (1 : Int32)), (.ref a1)]) _
  obtain ⟨cl1, Ar1, q1, Sz1, Nn1, Hh1, Gg1⟩ := id pV_a1
  have hin1 : ¬ ((1 : Int32) < 0 ∨ cl1.slots.size ≤ ((1 : Int32)).toNatClampNeg) := inb_of Sz1 ⟨by decide, by decide⟩
  have hat1 : cl1.slots[((1 : Int32)).toNatClampNeg]? = some (.int x1) := Has.at Hh1 hin1 rfl
  refine own_st (fun t_ k_ => X0.iaload hx (j := (1 : Int32)) (v := (.int x1)) (by rw [e0]; exact Ar1.1) (State.isArrayOf_alike hZ.alike Ar1.2.1) Ar1.2.2 hin1 hat1 (g := (mkF m 9 #[.val (.ref a1), .val (.int (1 : Int32)), .val (.int (4 : Int32)), .val (.int (1 : Int32)), .val (.int x1)] [(.int (1 : Int32)), (.ref a1)])) rfl rfl (hb hby d2_9) _ k_) ?_
  show own_Go p e below s₁ (mkF m 10 #[.val (.ref a1), .val (.int (1 : Int32)), .val (.int (4 : Int32)), .val (.int (1 : Int32)), .val (.int x1)] [(.int x1)]) _
  refine own_st (fun t_ k_ => XS.iload X0.here hx rfl (hb hby d2_10) rfl k_) ?_
  show own_Go p e below s₁ (mkF m 12 #[.val (.ref a1), .val (.int (1 : Int32)), .val (.int (4 : Int32)), .val (.int (1 : Int32)), .val (.int x1)] [(.int x1), (.int x1)]) _
  refine own_st (fun t_ k_ => XS.icmpYes X0.here hx rfl (pc0 := 12) (pc' := 17) rfl (hb hby d2_12) rfl (flt hn).2.2.2 (by decide) (by decide) k_) ?_
  show own_Go p e below s₁ (mkF m 17 #[.val (.ref a1), .val (.int (1 : Int32)), .val (.int (4 : Int32)), .val (.int (1 : Int32)), .val (.int x1)] []) _
  refine own_st (fun t_ k_ => XS.iloadN X0.here hx rfl (hb hby d2_17) rfl k_) ?_
  show own_Go p e below s₁ (mkF m 18 #[.val (.ref a1), .val (.int (1 : Int32)), .val (.int (4 : Int32)), .val (.int (1 : Int32)), .val (.int x1)] [(.int (1 : Int32))]) _
  refine own_st (fun t_ k_ => XS.iloadN X0.here hx rfl (hb hby d2_18) rfl k_) ?_
  show own_Go p e below s₁ (mkF m 19 #[.val (.ref a1), .val (.int (1 : Int32)), .val (.int (4 : Int32)), .val (.int (1 : Int32)), .val (.int x1)] [(.int (1 : Int32)), (.int (1 : Int32))]) _
  refine own_st (fun t_ k_ => XS.icmpYes X0.here hx rfl (pc0 := 19) (pc' := 32) rfl (hb hby d2_19) rfl (by decide) (by decide) (by decide) k_) ?_
  show own_Go p e below s₁ (mkF m 32 #[.val (.ref a1), .val (.int (1 : Int32)), .val (.int (4 : Int32)), .val (.int (1 : Int32)), .val (.int x1)] []) _
  refine own_st (fun t_ k_ => XS.iconst X0.here hx rfl (hb hby d2_32) k_) ?_
  show own_Go p e below s₁ (mkF m 33 #[.val (.ref a1), .val (.int (1 : Int32)), .val (.int (4 : Int32)), .val (.int (1 : Int32)), .val (.int x1)] [(.int (1 : Int32))]) _
  obtain ⟨fs, hr, hrun, hended, hW, hsame⟩ := X0.leave (v := some (.int (1 : Int32))) (fun h => by rw [Bd.returns] at h; cases h)
  refine own_fin (retN X0 hx (t := .boolean) Bd.returns (by simp) (hb hby d2_33) hr) ⟨hrun, hended, _, _, rfl, ?_, ⟨_, rfl⟩, hW, hsame.mono (by decide) (by decide)⟩
  show Q_rmOk_1_4_1 Z a1 ki x0 x1 x2 x3 h0 n0 _ s₁.heap _
  rw [e0]
  exact ⟨rfl, N0, rfl⟩
theorem ef_rmOk_2_4_1 (m : MethodId) (x0 : Addr) (x1 : Int32) (x2 : Int32) (x3 : Int32) (x4 : Int32) : entryFrame m #[(.ref x0), (.int x1), (.int x2), (.int x3), (.int x4)] 5 = mkF m 0 #[.val (.ref x0), .val (.int x1), .val (.int x2), .val (.int x3), .val (.int x4)] [] := by first | (simp [entryFrame, mkF, argsToLocals, Value.category]; done) | rfl
def Q_rmOk_2_4_1 (Z : State) (a1 : Addr) (ki : ClassId) (x0 : Int32) (x1 : Int32) (x2 : Int32) (x3 : Int32) (h0 : Heap) (n0 : Nat) (v : Option Value) (h : Heap) (L : List Loc) : Prop := v = some (.int (1 : Int32)) ∧ Fr n0 L ∧ h = h0
set_option maxRecDepth 65536 in
set_option maxHeartbeats 40000000 in
theorem rmOk_2_4_1 (l : Launch) (Z : State) (a0 : Array Value) (hw : ∀ d ∈ tables_1, d.before a0 Z = true) (ws : List Jvm.Cond) (a1 : Addr) (ki : ClassId) (x0 : Int32) (x1 : Int32) (x2 : Int32) (x3 : Int32) (h0 : Heap) (n0 : Nat) (Z0 : n0 ≤ h0.size) (pV_a1 : Arv Z h0 a1 ki .int (4 : Int32) [(.int x0), (.int x1), (.int x2), (.int x3)] (.int (0 : Int32))) (hle : (x2.toInt ≤ x1.toInt)) :
    MetFree l (⟨"com/example/spillback/spillback/behaviour/PlanSelectorHighestPinLaw", "ok", "([IIIII)Z"⟩ : MethodName) (head1 (Jvm.Cond.code (⟨"com/example/spillback/spillback/behaviour/PlanSelectorHighestPinLaw", "ok", "([IIIII)Z"⟩ : MethodName) method_3_code 5 (some .boolean) :: ws) ({ frames := 0, cells := 0, slots := 0, locals := 0 } : Room)) (fun a U => a = #[(.ref a1), (.int (2 : Int32)), (.int (4 : Int32)), (.int (1 : Int32)), (.int x1)] ∧ Z.Warmed39 U.vm ∧ U.heap = h0) (fun _ _ _ _ _ => True) (fun _ U o U' => ∃ v L, o = .returned v ∧ Q_rmOk_2_4_1 Z a1 ki x0 x1 x2 x3 h0 n0 v U'.heap L ∧ FrameEnd U o U' L ({ frames := 0, cells := 0, slots := 0, locals := 0 } : Room).cells ({ frames := 0, cells := 0, slots := 0, locals := 0 } : Room).slots) := by
  refine MetFree.of_bodySF (plainFor_of_name pn_2) hisR ?_
  intro p e s m args below meth c s₁ Bd hml0 hP hK
  obtain ⟨rfl, hZ, hh⟩ := hP
  have hx := Bd.exec
  have hby := Bd.bytes
  have hml : c.maxLocals = 5 := hml0
  have hown : s.vm.findClass "com/example/spillback/spillback/behaviour/PlanSelectorHighestPinLaw" = some m.cls := findClass_of_methodNamed Bd.named
  have hnm := (name_of_methodNamed Bd.named Bd.method).1
  have X0 : Stand p l e ({ frames := 0, cells := 0, slots := 0, locals := 0 } : Room) s m #[(.ref a1), (.int (2 : Int32)), (.int (4 : Int32)), (.int (1 : Int32)), (.int x1)] below meth c s₁ [] 0 0 := Stand.of_body Bd
  have e0 : s₁.heap = h0 := by rw [← hh, Bd.state]; rfl
  have N0 := Fr.nil n0
  refine own_enter (ef_rmOk_2_4_1 m a1 ((2 : Int32)) ((4 : Int32)) ((1 : Int32)) x1) ?_
  have hn : ¬ (x1 < x2) := by rw [Int32.lt_iff_toInt_lt]; omega
  refine own_st (fun t_ k_ => XS.iloadN X0.here hx rfl (hb hby d2_0) rfl k_) ?_
  show own_Go p e below s₁ (mkF m 1 #[.val (.ref a1), .val (.int (2 : Int32)), .val (.int (4 : Int32)), .val (.int (1 : Int32)), .val (.int x1)] [(.int (2 : Int32))]) _
  refine own_st (fun t_ k_ => XS.iloadN X0.here hx rfl (hb hby d2_1) rfl k_) ?_
  show own_Go p e below s₁ (mkF m 2 #[.val (.ref a1), .val (.int (2 : Int32)), .val (.int (4 : Int32)), .val (.int (1 : Int32)), .val (.int x1)] [(.int (4 : Int32)), (.int (2 : Int32))]) _
  refine own_st (fun t_ k_ => XS.icmpYes X0.here hx rfl (pc0 := 2) (pc' := 7) rfl (hb hby d2_2) rfl (by decide) (by decide) (by decide) k_) ?_
  show own_Go p e below s₁ (mkF m 7 #[.val (.ref a1), .val (.int (2 : Int32)), .val (.int (4 : Int32)), .val (.int (1 : Int32)), .val (.int x1)] []) _
  refine own_st (fun t_ k_ => XS.aloadN X0.here hx rfl (hb hby d2_7) rfl rfl k_) ?_
  show own_Go p e below s₁ (mkF m 8 #[.val (.ref a1), .val (.int (2 : Int32)), .val (.int (4 : Int32)), .val (.int (1 : Int32)), .val (.int x1)] [(.ref a1)]) _
  refine own_st (fun t_ k_ => XS.iloadN X0.here hx rfl (hb hby d2_8) rfl k_) ?_
  show own_Go p e below s₁ (mkF m 9 #[.val (.ref a1), .val (.int (2 : Int32)), .val (.int (4 : Int32)), .val (.int (1 : Int32)), .val (.int x1)] [(.int (2 : Int32)), (.ref a1)]) _
  obtain ⟨cl1, Ar1, q1, Sz1, Nn1, Hh1, Gg1⟩ := id pV_a1
  have hin1 : ¬ ((2 : Int32) < 0 ∨ cl1.slots.size ≤ ((2 : Int32)).toNatClampNeg) := inb_of Sz1 ⟨by decide, by decide⟩
  have hat1 : cl1.slots[((2 : Int32)).toNatClampNeg]? = some (.int x2) := Has.at Hh1 hin1 rfl
  refine own_st (fun t_ k_ => X0.iaload hx (j := (2 : Int32)) (v := (.int x2)) (by rw [e0]; exact Ar1.1) (State.isArrayOf_alike hZ.alike Ar1.2.1) Ar1.2.2 hin1 hat1 (g := (mkF m 9 #[.val (.ref a1), .val (.int (2 : Int32)), .val (.int (4 : Int32)), .val (.int (1 : Int32)), .val (.int x1)] [(.int (2 : Int32)), (.ref a1)])) rfl rfl (hb hby d2_9) _ k_) ?_
  show own_Go p e below s₁ (mkF m 10 #[.val (.ref a1), .val (.int (2 : Int32)), .val (.int (4 : Int32)), .val (.int (1 : Int32)), .val (.int x1)] [(.int x2)]) _
  refine own_st (fun t_ k_ => XS.iload X0.here hx rfl (hb hby d2_10) rfl k_) ?_
  show own_Go p e below s₁ (mkF m 12 #[.val (.ref a1), .val (.int (2 : Int32)), .val (.int (4 : Int32)), .val (.int (1 : Int32)), .val (.int x1)] [(.int x1), (.int x2)]) _
  refine own_st (fun t_ k_ => XS.icmpYes X0.here hx rfl (pc0 := 12) (pc' := 17) rfl (hb hby d2_12) rfl (flt hn).2.2.2 (by decide) (by decide) k_) ?_
  show own_Go p e below s₁ (mkF m 17 #[.val (.ref a1), .val (.int (2 : Int32)), .val (.int (4 : Int32)), .val (.int (1 : Int32)), .val (.int x1)] []) _
  refine own_st (fun t_ k_ => XS.iloadN X0.here hx rfl (hb hby d2_17) rfl k_) ?_
  show own_Go p e below s₁ (mkF m 18 #[.val (.ref a1), .val (.int (2 : Int32)), .val (.int (4 : Int32)), .val (.int (1 : Int32)), .val (.int x1)] [(.int (2 : Int32))]) _
  refine own_st (fun t_ k_ => XS.iloadN X0.here hx rfl (hb hby d2_18) rfl k_) ?_
  show own_Go p e below s₁ (mkF m 19 #[.val (.ref a1), .val (.int (2 : Int32)), .val (.int (4 : Int32)), .val (.int (1 : Int32)), .val (.int x1)] [(.int (1 : Int32)), (.int (2 : Int32))]) _
  refine own_st (fun t_ k_ => XS.icmpYes X0.here hx rfl (pc0 := 19) (pc' := 32) rfl (hb hby d2_19) rfl (by decide) (by decide) (by decide) k_) ?_
  show own_Go p e below s₁ (mkF m 32 #[.val (.ref a1), .val (.int (2 : Int32)), .val (.int (4 : Int32)), .val (.int (1 : Int32)), .val (.int x1)] []) _
  refine own_st (fun t_ k_ => XS.iconst X0.here hx rfl (hb hby d2_32) k_) ?_
  show own_Go p e below s₁ (mkF m 33 #[.val (.ref a1), .val (.int (2 : Int32)), .val (.int (4 : Int32)), .val (.int (1 : Int32)), .val (.int x1)] [(.int (1 : Int32))]) _
  obtain ⟨fs, hr, hrun, hended, hW, hsame⟩ := X0.leave (v := some (.int (1 : Int32))) (fun h => by rw [Bd.returns] at h; cases h)
  refine own_fin (retN X0 hx (t := .boolean) Bd.returns (by simp) (hb hby d2_33) hr) ⟨hrun, hended, _, _, rfl, ?_, ⟨_, rfl⟩, hW, hsame.mono (by decide) (by decide)⟩
  show Q_rmOk_2_4_1 Z a1 ki x0 x1 x2 x3 h0 n0 _ s₁.heap _
  rw [e0]
  exact ⟨rfl, N0, rfl⟩
theorem ef_rmOk_3_4_1 (m : MethodId) (x0 : Addr) (x1 : Int32) (x2 : Int32) (x3 : Int32) (x4 : Int32) : entryFrame m #[(.ref x0), (.int x1), (.int x2), (.int x3), (.int x4)] 5 = mkF m 0 #[.val (.ref x0), .val (.int x1), .val (.int x2), .val (.int x3), .val (.int x4)] [] := by first | (simp [entryFrame, mkF, argsToLocals, Value.category]; done) | rfl
def Q_rmOk_3_4_1 (Z : State) (a1 : Addr) (ki : ClassId) (x0 : Int32) (x1 : Int32) (x2 : Int32) (x3 : Int32) (h0 : Heap) (n0 : Nat) (v : Option Value) (h : Heap) (L : List Loc) : Prop := v = some (.int (1 : Int32)) ∧ Fr n0 L ∧ h = h0
set_option maxRecDepth 65536 in
set_option maxHeartbeats 40000000 in
theorem rmOk_3_4_1 (l : Launch) (Z : State) (a0 : Array Value) (hw : ∀ d ∈ tables_1, d.before a0 Z = true) (ws : List Jvm.Cond) (a1 : Addr) (ki : ClassId) (x0 : Int32) (x1 : Int32) (x2 : Int32) (x3 : Int32) (h0 : Heap) (n0 : Nat) (Z0 : n0 ≤ h0.size) (pV_a1 : Arv Z h0 a1 ki .int (4 : Int32) [(.int x0), (.int x1), (.int x2), (.int x3)] (.int (0 : Int32))) (hle : (x3.toInt ≤ x1.toInt)) :
    MetFree l (⟨"com/example/spillback/spillback/behaviour/PlanSelectorHighestPinLaw", "ok", "([IIIII)Z"⟩ : MethodName) (head1 (Jvm.Cond.code (⟨"com/example/spillback/spillback/behaviour/PlanSelectorHighestPinLaw", "ok", "([IIIII)Z"⟩ : MethodName) method_3_code 5 (some .boolean) :: ws) ({ frames := 0, cells := 0, slots := 0, locals := 0 } : Room)) (fun a U => a = #[(.ref a1), (.int (3 : Int32)), (.int (4 : Int32)), (.int (1 : Int32)), (.int x1)] ∧ Z.Warmed39 U.vm ∧ U.heap = h0) (fun _ _ _ _ _ => True) (fun _ U o U' => ∃ v L, o = .returned v ∧ Q_rmOk_3_4_1 Z a1 ki x0 x1 x2 x3 h0 n0 v U'.heap L ∧ FrameEnd U o U' L ({ frames := 0, cells := 0, slots := 0, locals := 0 } : Room).cells ({ frames := 0, cells := 0, slots := 0, locals := 0 } : Room).slots) := by
  refine MetFree.of_bodySF (plainFor_of_name pn_2) hisR ?_
  intro p e s m args below meth c s₁ Bd hml0 hP hK
  obtain ⟨rfl, hZ, hh⟩ := hP
  have hx := Bd.exec
  have hby := Bd.bytes
  have hml : c.maxLocals = 5 := hml0
  have hown : s.vm.findClass "com/example/spillback/spillback/behaviour/PlanSelectorHighestPinLaw" = some m.cls := findClass_of_methodNamed Bd.named
  have hnm := (name_of_methodNamed Bd.named Bd.method).1
  have X0 : Stand p l e ({ frames := 0, cells := 0, slots := 0, locals := 0 } : Room) s m #[(.ref a1), (.int (3 : Int32)), (.int (4 : Int32)), (.int (1 : Int32)), (.int x1)] below meth c s₁ [] 0 0 := Stand.of_body Bd
  have e0 : s₁.heap = h0 := by rw [← hh, Bd.state]; rfl
  have N0 := Fr.nil n0
  refine own_enter (ef_rmOk_3_4_1 m a1 ((3 : Int32)) ((4 : Int32)) ((1 : Int32)) x1) ?_
  have hn : ¬ (x1 < x3) := by rw [Int32.lt_iff_toInt_lt]; omega
  refine own_st (fun t_ k_ => XS.iloadN X0.here hx rfl (hb hby d2_0) rfl k_) ?_
  show own_Go p e below s₁ (mkF m 1 #[.val (.ref a1), .val (.int (3 : Int32)), .val (.int (4 : Int32)), .val (.int (1 : Int32)), .val (.int x1)] [(.int (3 : Int32))]) _
  refine own_st (fun t_ k_ => XS.iloadN X0.here hx rfl (hb hby d2_1) rfl k_) ?_
  show own_Go p e below s₁ (mkF m 2 #[.val (.ref a1), .val (.int (3 : Int32)), .val (.int (4 : Int32)), .val (.int (1 : Int32)), .val (.int x1)] [(.int (4 : Int32)), (.int (3 : Int32))]) _
  refine own_st (fun t_ k_ => XS.icmpYes X0.here hx rfl (pc0 := 2) (pc' := 7) rfl (hb hby d2_2) rfl (by decide) (by decide) (by decide) k_) ?_
  show own_Go p e below s₁ (mkF m 7 #[.val (.ref a1), .val (.int (3 : Int32)), .val (.int (4 : Int32)), .val (.int (1 : Int32)), .val (.int x1)] []) _
  refine own_st (fun t_ k_ => XS.aloadN X0.here hx rfl (hb hby d2_7) rfl rfl k_) ?_
  show own_Go p e below s₁ (mkF m 8 #[.val (.ref a1), .val (.int (3 : Int32)), .val (.int (4 : Int32)), .val (.int (1 : Int32)), .val (.int x1)] [(.ref a1)]) _
  refine own_st (fun t_ k_ => XS.iloadN X0.here hx rfl (hb hby d2_8) rfl k_) ?_
  show own_Go p e below s₁ (mkF m 9 #[.val (.ref a1), .val (.int (3 : Int32)), .val (.int (4 : Int32)), .val (.int (1 : Int32)), .val (.int x1)] [(.int (3 : Int32)), (.ref a1)]) _
  obtain ⟨cl1, Ar1, q1, Sz1, Nn1, Hh1, Gg1⟩ := id pV_a1
  have hin1 : ¬ ((3 : Int32) < 0 ∨ cl1.slots.size ≤ ((3 : Int32)).toNatClampNeg) := inb_of Sz1 ⟨by decide, by decide⟩
  have hat1 : cl1.slots[((3 : Int32)).toNatClampNeg]? = some (.int x3) := Has.at Hh1 hin1 rfl
  refine own_st (fun t_ k_ => X0.iaload hx (j := (3 : Int32)) (v := (.int x3)) (by rw [e0]; exact Ar1.1) (State.isArrayOf_alike hZ.alike Ar1.2.1) Ar1.2.2 hin1 hat1 (g := (mkF m 9 #[.val (.ref a1), .val (.int (3 : Int32)), .val (.int (4 : Int32)), .val (.int (1 : Int32)), .val (.int x1)] [(.int (3 : Int32)), (.ref a1)])) rfl rfl (hb hby d2_9) _ k_) ?_
  show own_Go p e below s₁ (mkF m 10 #[.val (.ref a1), .val (.int (3 : Int32)), .val (.int (4 : Int32)), .val (.int (1 : Int32)), .val (.int x1)] [(.int x3)]) _
  refine own_st (fun t_ k_ => XS.iload X0.here hx rfl (hb hby d2_10) rfl k_) ?_
  show own_Go p e below s₁ (mkF m 12 #[.val (.ref a1), .val (.int (3 : Int32)), .val (.int (4 : Int32)), .val (.int (1 : Int32)), .val (.int x1)] [(.int x1), (.int x3)]) _
  refine own_st (fun t_ k_ => XS.icmpYes X0.here hx rfl (pc0 := 12) (pc' := 17) rfl (hb hby d2_12) rfl (flt hn).2.2.2 (by decide) (by decide) k_) ?_
  show own_Go p e below s₁ (mkF m 17 #[.val (.ref a1), .val (.int (3 : Int32)), .val (.int (4 : Int32)), .val (.int (1 : Int32)), .val (.int x1)] []) _
  refine own_st (fun t_ k_ => XS.iloadN X0.here hx rfl (hb hby d2_17) rfl k_) ?_
  show own_Go p e below s₁ (mkF m 18 #[.val (.ref a1), .val (.int (3 : Int32)), .val (.int (4 : Int32)), .val (.int (1 : Int32)), .val (.int x1)] [(.int (3 : Int32))]) _
  refine own_st (fun t_ k_ => XS.iloadN X0.here hx rfl (hb hby d2_18) rfl k_) ?_
  show own_Go p e below s₁ (mkF m 19 #[.val (.ref a1), .val (.int (3 : Int32)), .val (.int (4 : Int32)), .val (.int (1 : Int32)), .val (.int x1)] [(.int (1 : Int32)), (.int (3 : Int32))]) _
  refine own_st (fun t_ k_ => XS.icmpYes X0.here hx rfl (pc0 := 19) (pc' := 32) rfl (hb hby d2_19) rfl (by decide) (by decide) (by decide) k_) ?_
  show own_Go p e below s₁ (mkF m 32 #[.val (.ref a1), .val (.int (3 : Int32)), .val (.int (4 : Int32)), .val (.int (1 : Int32)), .val (.int x1)] []) _
  refine own_st (fun t_ k_ => XS.iconst X0.here hx rfl (hb hby d2_32) k_) ?_
  show own_Go p e below s₁ (mkF m 33 #[.val (.ref a1), .val (.int (3 : Int32)), .val (.int (4 : Int32)), .val (.int (1 : Int32)), .val (.int x1)] [(.int (1 : Int32))]) _
  obtain ⟨fs, hr, hrun, hended, hW, hsame⟩ := X0.leave (v := some (.int (1 : Int32))) (fun h => by rw [Bd.returns] at h; cases h)
  refine own_fin (retN X0 hx (t := .boolean) Bd.returns (by simp) (hb hby d2_33) hr) ⟨hrun, hended, _, _, rfl, ?_, ⟨_, rfl⟩, hW, hsame.mono (by decide) (by decide)⟩
  show Q_rmOk_3_4_1 Z a1 ki x0 x1 x2 x3 h0 n0 _ s₁.heap _
  rw [e0]
  exact ⟨rfl, N0, rfl⟩
theorem ef_rmOk_0_4_2 (m : MethodId) (x0 : Addr) (x1 : Int32) (x2 : Int32) (x3 : Int32) (x4 : Int32) : entryFrame m #[(.ref x0), (.int x1), (.int x2), (.int x3), (.int x4)] 5 = mkF m 0 #[.val (.ref x0), .val (.int x1), .val (.int x2), .val (.int x3), .val (.int x4)] [] := by first | (simp [entryFrame, mkF, argsToLocals, Value.category]; done) | rfl
def Q_rmOk_0_4_2 (Z : State) (a1 : Addr) (ki : ClassId) (x0 : Int32) (x1 : Int32) (x2 : Int32) (x3 : Int32) (h0 : Heap) (n0 : Nat) (v : Option Value) (h : Heap) (L : List Loc) : Prop := v = some (.int (1 : Int32)) ∧ Fr n0 L ∧ h = h0
set_option maxRecDepth 65536 in
set_option maxHeartbeats 40000000 in
theorem rmOk_0_4_2 (l : Launch) (Z : State) (a0 : Array Value) (hw : ∀ d ∈ tables_1, d.before a0 Z = true) (ws : List Jvm.Cond) (a1 : Addr) (ki : ClassId) (x0 : Int32) (x1 : Int32) (x2 : Int32) (x3 : Int32) (h0 : Heap) (n0 : Nat) (Z0 : n0 ≤ h0.size) (pV_a1 : Arv Z h0 a1 ki .int (4 : Int32) [(.int x0), (.int x1), (.int x2), (.int x3)] (.int (0 : Int32))) (hle : (x0.toInt < x2.toInt)) :
    MetFree l (⟨"com/example/spillback/spillback/behaviour/PlanSelectorHighestPinLaw", "ok", "([IIIII)Z"⟩ : MethodName) (head1 (Jvm.Cond.code (⟨"com/example/spillback/spillback/behaviour/PlanSelectorHighestPinLaw", "ok", "([IIIII)Z"⟩ : MethodName) method_3_code 5 (some .boolean) :: ws) ({ frames := 0, cells := 0, slots := 0, locals := 0 } : Room)) (fun a U => a = #[(.ref a1), (.int (0 : Int32)), (.int (4 : Int32)), (.int (2 : Int32)), (.int x2)] ∧ Z.Warmed39 U.vm ∧ U.heap = h0) (fun _ _ _ _ _ => True) (fun _ U o U' => ∃ v L, o = .returned v ∧ Q_rmOk_0_4_2 Z a1 ki x0 x1 x2 x3 h0 n0 v U'.heap L ∧ FrameEnd U o U' L ({ frames := 0, cells := 0, slots := 0, locals := 0 } : Room).cells ({ frames := 0, cells := 0, slots := 0, locals := 0 } : Room).slots) := by
  refine MetFree.of_bodySF (plainFor_of_name pn_2) hisR ?_
  intro p e s m args below meth c s₁ Bd hml0 hP hK
  obtain ⟨rfl, hZ, hh⟩ := hP
  have hx := Bd.exec
  have hby := Bd.bytes
  have hml : c.maxLocals = 5 := hml0
  have hown : s.vm.findClass "com/example/spillback/spillback/behaviour/PlanSelectorHighestPinLaw" = some m.cls := findClass_of_methodNamed Bd.named
  have hnm := (name_of_methodNamed Bd.named Bd.method).1
  have X0 : Stand p l e ({ frames := 0, cells := 0, slots := 0, locals := 0 } : Room) s m #[(.ref a1), (.int (0 : Int32)), (.int (4 : Int32)), (.int (2 : Int32)), (.int x2)] below meth c s₁ [] 0 0 := Stand.of_body Bd
  have e0 : s₁.heap = h0 := by rw [← hh, Bd.state]; rfl
  have N0 := Fr.nil n0
  refine own_enter (ef_rmOk_0_4_2 m a1 ((0 : Int32)) ((4 : Int32)) ((2 : Int32)) x2) ?_
  have hn : ¬ (x2 < x0) := by rw [Int32.lt_iff_toInt_lt]; omega
  have hd : ¬ (x0 = x2) := fun q => by subst q; omega
  refine own_st (fun t_ k_ => XS.iloadN X0.here hx rfl (hb hby d2_0) rfl k_) ?_
  show own_Go p e below s₁ (mkF m 1 #[.val (.ref a1), .val (.int (0 : Int32)), .val (.int (4 : Int32)), .val (.int (2 : Int32)), .val (.int x2)] [(.int (0 : Int32))]) _
  refine own_st (fun t_ k_ => XS.iloadN X0.here hx rfl (hb hby d2_1) rfl k_) ?_
  show own_Go p e below s₁ (mkF m 2 #[.val (.ref a1), .val (.int (0 : Int32)), .val (.int (4 : Int32)), .val (.int (2 : Int32)), .val (.int x2)] [(.int (4 : Int32)), (.int (0 : Int32))]) _
  refine own_st (fun t_ k_ => XS.icmpYes X0.here hx rfl (pc0 := 2) (pc' := 7) rfl (hb hby d2_2) rfl (by decide) (by decide) (by decide) k_) ?_
  show own_Go p e below s₁ (mkF m 7 #[.val (.ref a1), .val (.int (0 : Int32)), .val (.int (4 : Int32)), .val (.int (2 : Int32)), .val (.int x2)] []) _
  refine own_st (fun t_ k_ => XS.aloadN X0.here hx rfl (hb hby d2_7) rfl rfl k_) ?_
  show own_Go p e below s₁ (mkF m 8 #[.val (.ref a1), .val (.int (0 : Int32)), .val (.int (4 : Int32)), .val (.int (2 : Int32)), .val (.int x2)] [(.ref a1)]) _
  refine own_st (fun t_ k_ => XS.iloadN X0.here hx rfl (hb hby d2_8) rfl k_) ?_
  show own_Go p e below s₁ (mkF m 9 #[.val (.ref a1), .val (.int (0 : Int32)), .val (.int (4 : Int32)), .val (.int (2 : Int32)), .val (.int x2)] [(.int (0 : Int32)), (.ref a1)]) _
  obtain ⟨cl1, Ar1, q1, Sz1, Nn1, Hh1, Gg1⟩ := id pV_a1
  have hin1 : ¬ ((0 : Int32) < 0 ∨ cl1.slots.size ≤ ((0 : Int32)).toNatClampNeg) := inb_of Sz1 ⟨by decide, by decide⟩
  have hat1 : cl1.slots[((0 : Int32)).toNatClampNeg]? = some (.int x0) := Has.at Hh1 hin1 rfl
  refine own_st (fun t_ k_ => X0.iaload hx (j := (0 : Int32)) (v := (.int x0)) (by rw [e0]; exact Ar1.1) (State.isArrayOf_alike hZ.alike Ar1.2.1) Ar1.2.2 hin1 hat1 (g := (mkF m 9 #[.val (.ref a1), .val (.int (0 : Int32)), .val (.int (4 : Int32)), .val (.int (2 : Int32)), .val (.int x2)] [(.int (0 : Int32)), (.ref a1)])) rfl rfl (hb hby d2_9) _ k_) ?_
  show own_Go p e below s₁ (mkF m 10 #[.val (.ref a1), .val (.int (0 : Int32)), .val (.int (4 : Int32)), .val (.int (2 : Int32)), .val (.int x2)] [(.int x0)]) _
  refine own_st (fun t_ k_ => XS.iload X0.here hx rfl (hb hby d2_10) rfl k_) ?_
  show own_Go p e below s₁ (mkF m 12 #[.val (.ref a1), .val (.int (0 : Int32)), .val (.int (4 : Int32)), .val (.int (2 : Int32)), .val (.int x2)] [(.int x2), (.int x0)]) _
  refine own_st (fun t_ k_ => XS.icmpYes X0.here hx rfl (pc0 := 12) (pc' := 17) rfl (hb hby d2_12) rfl (flt hn).2.2.2 (by decide) (by decide) k_) ?_
  show own_Go p e below s₁ (mkF m 17 #[.val (.ref a1), .val (.int (0 : Int32)), .val (.int (4 : Int32)), .val (.int (2 : Int32)), .val (.int x2)] []) _
  refine own_st (fun t_ k_ => XS.iloadN X0.here hx rfl (hb hby d2_17) rfl k_) ?_
  show own_Go p e below s₁ (mkF m 18 #[.val (.ref a1), .val (.int (0 : Int32)), .val (.int (4 : Int32)), .val (.int (2 : Int32)), .val (.int x2)] [(.int (0 : Int32))]) _
  refine own_st (fun t_ k_ => XS.iloadN X0.here hx rfl (hb hby d2_18) rfl k_) ?_
  show own_Go p e below s₁ (mkF m 19 #[.val (.ref a1), .val (.int (0 : Int32)), .val (.int (4 : Int32)), .val (.int (2 : Int32)), .val (.int x2)] [(.int (2 : Int32)), (.int (0 : Int32))]) _
  refine own_st (fun t_ k_ => XS.icmpNo X0.here hx rfl (hb hby d2_19) rfl (by decide) k_) ?_
  show own_Go p e below s₁ (mkF m 22 #[.val (.ref a1), .val (.int (0 : Int32)), .val (.int (4 : Int32)), .val (.int (2 : Int32)), .val (.int x2)] []) _
  refine own_st (fun t_ k_ => XS.aloadN X0.here hx rfl (hb hby d2_22) rfl rfl k_) ?_
  show own_Go p e below s₁ (mkF m 23 #[.val (.ref a1), .val (.int (0 : Int32)), .val (.int (4 : Int32)), .val (.int (2 : Int32)), .val (.int x2)] [(.ref a1)]) _
  refine own_st (fun t_ k_ => XS.iloadN X0.here hx rfl (hb hby d2_23) rfl k_) ?_
  show own_Go p e below s₁ (mkF m 24 #[.val (.ref a1), .val (.int (0 : Int32)), .val (.int (4 : Int32)), .val (.int (2 : Int32)), .val (.int x2)] [(.int (0 : Int32)), (.ref a1)]) _
  obtain ⟨cl2, Ar2, q2, Sz2, Nn2, Hh2, Gg2⟩ := id pV_a1
  have hin2 : ¬ ((0 : Int32) < 0 ∨ cl2.slots.size ≤ ((0 : Int32)).toNatClampNeg) := inb_of Sz2 ⟨by decide, by decide⟩
  have hat2 : cl2.slots[((0 : Int32)).toNatClampNeg]? = some (.int x0) := Has.at Hh2 hin2 rfl
  refine own_st (fun t_ k_ => X0.iaload hx (j := (0 : Int32)) (v := (.int x0)) (by rw [e0]; exact Ar2.1) (State.isArrayOf_alike hZ.alike Ar2.2.1) Ar2.2.2 hin2 hat2 (g := (mkF m 24 #[.val (.ref a1), .val (.int (0 : Int32)), .val (.int (4 : Int32)), .val (.int (2 : Int32)), .val (.int x2)] [(.int (0 : Int32)), (.ref a1)])) rfl rfl (hb hby d2_24) _ k_) ?_
  show own_Go p e below s₁ (mkF m 25 #[.val (.ref a1), .val (.int (0 : Int32)), .val (.int (4 : Int32)), .val (.int (2 : Int32)), .val (.int x2)] [(.int x0)]) _
  refine own_st (fun t_ k_ => XS.iload X0.here hx rfl (hb hby d2_25) rfl k_) ?_
  show own_Go p e below s₁ (mkF m 27 #[.val (.ref a1), .val (.int (0 : Int32)), .val (.int (4 : Int32)), .val (.int (2 : Int32)), .val (.int x2)] [(.int x2), (.int x0)]) _
  refine own_st (fun t_ k_ => XS.icmpYes X0.here hx rfl (pc0 := 27) (pc' := 32) rfl (hb hby d2_27) rfl (feq hd).2 (by decide) (by decide) k_) ?_
  show own_Go p e below s₁ (mkF m 32 #[.val (.ref a1), .val (.int (0 : Int32)), .val (.int (4 : Int32)), .val (.int (2 : Int32)), .val (.int x2)] []) _
  refine own_st (fun t_ k_ => XS.iconst X0.here hx rfl (hb hby d2_32) k_) ?_
  show own_Go p e below s₁ (mkF m 33 #[.val (.ref a1), .val (.int (0 : Int32)), .val (.int (4 : Int32)), .val (.int (2 : Int32)), .val (.int x2)] [(.int (1 : Int32))]) _
  obtain ⟨fs, hr, hrun, hended, hW, hsame⟩ := X0.leave (v := some (.int (1 : Int32))) (fun h => by rw [Bd.returns] at h; cases h)
  refine own_fin (retN X0 hx (t := .boolean) Bd.returns (by simp) (hb hby d2_33) hr) ⟨hrun, hended, _, _, rfl, ?_, ⟨_, rfl⟩, hW, hsame.mono (by decide) (by decide)⟩
  show Q_rmOk_0_4_2 Z a1 ki x0 x1 x2 x3 h0 n0 _ s₁.heap _
  rw [e0]
  exact ⟨rfl, N0, rfl⟩
theorem ef_rmOk_1_4_2 (m : MethodId) (x0 : Addr) (x1 : Int32) (x2 : Int32) (x3 : Int32) (x4 : Int32) : entryFrame m #[(.ref x0), (.int x1), (.int x2), (.int x3), (.int x4)] 5 = mkF m 0 #[.val (.ref x0), .val (.int x1), .val (.int x2), .val (.int x3), .val (.int x4)] [] := by first | (simp [entryFrame, mkF, argsToLocals, Value.category]; done) | rfl
def Q_rmOk_1_4_2 (Z : State) (a1 : Addr) (ki : ClassId) (x0 : Int32) (x1 : Int32) (x2 : Int32) (x3 : Int32) (h0 : Heap) (n0 : Nat) (v : Option Value) (h : Heap) (L : List Loc) : Prop := v = some (.int (1 : Int32)) ∧ Fr n0 L ∧ h = h0
set_option maxRecDepth 65536 in
set_option maxHeartbeats 40000000 in
theorem rmOk_1_4_2 (l : Launch) (Z : State) (a0 : Array Value) (hw : ∀ d ∈ tables_1, d.before a0 Z = true) (ws : List Jvm.Cond) (a1 : Addr) (ki : ClassId) (x0 : Int32) (x1 : Int32) (x2 : Int32) (x3 : Int32) (h0 : Heap) (n0 : Nat) (Z0 : n0 ≤ h0.size) (pV_a1 : Arv Z h0 a1 ki .int (4 : Int32) [(.int x0), (.int x1), (.int x2), (.int x3)] (.int (0 : Int32))) (hle : (x1.toInt < x2.toInt)) :
    MetFree l (⟨"com/example/spillback/spillback/behaviour/PlanSelectorHighestPinLaw", "ok", "([IIIII)Z"⟩ : MethodName) (head1 (Jvm.Cond.code (⟨"com/example/spillback/spillback/behaviour/PlanSelectorHighestPinLaw", "ok", "([IIIII)Z"⟩ : MethodName) method_3_code 5 (some .boolean) :: ws) ({ frames := 0, cells := 0, slots := 0, locals := 0 } : Room)) (fun a U => a = #[(.ref a1), (.int (1 : Int32)), (.int (4 : Int32)), (.int (2 : Int32)), (.int x2)] ∧ Z.Warmed39 U.vm ∧ U.heap = h0) (fun _ _ _ _ _ => True) (fun _ U o U' => ∃ v L, o = .returned v ∧ Q_rmOk_1_4_2 Z a1 ki x0 x1 x2 x3 h0 n0 v U'.heap L ∧ FrameEnd U o U' L ({ frames := 0, cells := 0, slots := 0, locals := 0 } : Room).cells ({ frames := 0, cells := 0, slots := 0, locals := 0 } : Room).slots) := by
  refine MetFree.of_bodySF (plainFor_of_name pn_2) hisR ?_
  intro p e s m args below meth c s₁ Bd hml0 hP hK
  obtain ⟨rfl, hZ, hh⟩ := hP
  have hx := Bd.exec
  have hby := Bd.bytes
  have hml : c.maxLocals = 5 := hml0
  have hown : s.vm.findClass "com/example/spillback/spillback/behaviour/PlanSelectorHighestPinLaw" = some m.cls := findClass_of_methodNamed Bd.named
  have hnm := (name_of_methodNamed Bd.named Bd.method).1
  have X0 : Stand p l e ({ frames := 0, cells := 0, slots := 0, locals := 0 } : Room) s m #[(.ref a1), (.int (1 : Int32)), (.int (4 : Int32)), (.int (2 : Int32)), (.int x2)] below meth c s₁ [] 0 0 := Stand.of_body Bd
  have e0 : s₁.heap = h0 := by rw [← hh, Bd.state]; rfl
  have N0 := Fr.nil n0
  refine own_enter (ef_rmOk_1_4_2 m a1 ((1 : Int32)) ((4 : Int32)) ((2 : Int32)) x2) ?_
  have hn : ¬ (x2 < x1) := by rw [Int32.lt_iff_toInt_lt]; omega
  have hd : ¬ (x1 = x2) := fun q => by subst q; omega
  refine own_st (fun t_ k_ => XS.iloadN X0.here hx rfl (hb hby d2_0) rfl k_) ?_
  show own_Go p e below s₁ (mkF m 1 #[.val (.ref a1), .val (.int (1 : Int32)), .val (.int (4 : Int32)), .val (.int (2 : Int32)), .val (.int x2)] [(.int (1 : Int32))]) _
  refine own_st (fun t_ k_ => XS.iloadN X0.here hx rfl (hb hby d2_1) rfl k_) ?_
  show own_Go p e below s₁ (mkF m 2 #[.val (.ref a1), .val (.int (1 : Int32)), .val (.int (4 : Int32)), .val (.int (2 : Int32)), .val (.int x2)] [(.int (4 : Int32)), (.int (1 : Int32))]) _
  refine own_st (fun t_ k_ => XS.icmpYes X0.here hx rfl (pc0 := 2) (pc' := 7) rfl (hb hby d2_2) rfl (by decide) (by decide) (by decide) k_) ?_
  show own_Go p e below s₁ (mkF m 7 #[.val (.ref a1), .val (.int (1 : Int32)), .val (.int (4 : Int32)), .val (.int (2 : Int32)), .val (.int x2)] []) _
  refine own_st (fun t_ k_ => XS.aloadN X0.here hx rfl (hb hby d2_7) rfl rfl k_) ?_
  show own_Go p e below s₁ (mkF m 8 #[.val (.ref a1), .val (.int (1 : Int32)), .val (.int (4 : Int32)), .val (.int (2 : Int32)), .val (.int x2)] [(.ref a1)]) _
  refine own_st (fun t_ k_ => XS.iloadN X0.here hx rfl (hb hby d2_8) rfl k_) ?_
  show own_Go p e below s₁ (mkF m 9 #[.val (.ref a1), .val (.int (1 : Int32)), .val (.int (4 : Int32)), .val (.int (2 : Int32)), .val (.int x2)] [(.int (1 : Int32)), (.ref a1)]) _
  obtain ⟨cl1, Ar1, q1, Sz1, Nn1, Hh1, Gg1⟩ := id pV_a1
  have hin1 : ¬ ((1 : Int32) < 0 ∨ cl1.slots.size ≤ ((1 : Int32)).toNatClampNeg) := inb_of Sz1 ⟨by decide, by decide⟩
  have hat1 : cl1.slots[((1 : Int32)).toNatClampNeg]? = some (.int x1) := Has.at Hh1 hin1 rfl
  refine own_st (fun t_ k_ => X0.iaload hx (j := (1 : Int32)) (v := (.int x1)) (by rw [e0]; exact Ar1.1) (State.isArrayOf_alike hZ.alike Ar1.2.1) Ar1.2.2 hin1 hat1 (g := (mkF m 9 #[.val (.ref a1), .val (.int (1 : Int32)), .val (.int (4 : Int32)), .val (.int (2 : Int32)), .val (.int x2)] [(.int (1 : Int32)), (.ref a1)])) rfl rfl (hb hby d2_9) _ k_) ?_
  show own_Go p e below s₁ (mkF m 10 #[.val (.ref a1), .val (.int (1 : Int32)), .val (.int (4 : Int32)), .val (.int (2 : Int32)), .val (.int x2)] [(.int x1)]) _
  refine own_st (fun t_ k_ => XS.iload X0.here hx rfl (hb hby d2_10) rfl k_) ?_
  show own_Go p e below s₁ (mkF m 12 #[.val (.ref a1), .val (.int (1 : Int32)), .val (.int (4 : Int32)), .val (.int (2 : Int32)), .val (.int x2)] [(.int x2), (.int x1)]) _
  refine own_st (fun t_ k_ => XS.icmpYes X0.here hx rfl (pc0 := 12) (pc' := 17) rfl (hb hby d2_12) rfl (flt hn).2.2.2 (by decide) (by decide) k_) ?_
  show own_Go p e below s₁ (mkF m 17 #[.val (.ref a1), .val (.int (1 : Int32)), .val (.int (4 : Int32)), .val (.int (2 : Int32)), .val (.int x2)] []) _
  refine own_st (fun t_ k_ => XS.iloadN X0.here hx rfl (hb hby d2_17) rfl k_) ?_
  show own_Go p e below s₁ (mkF m 18 #[.val (.ref a1), .val (.int (1 : Int32)), .val (.int (4 : Int32)), .val (.int (2 : Int32)), .val (.int x2)] [(.int (1 : Int32))]) _
  refine own_st (fun t_ k_ => XS.iloadN X0.here hx rfl (hb hby d2_18) rfl k_) ?_
  show own_Go p e below s₁ (mkF m 19 #[.val (.ref a1), .val (.int (1 : Int32)), .val (.int (4 : Int32)), .val (.int (2 : Int32)), .val (.int x2)] [(.int (2 : Int32)), (.int (1 : Int32))]) _
  refine own_st (fun t_ k_ => XS.icmpNo X0.here hx rfl (hb hby d2_19) rfl (by decide) k_) ?_
  show own_Go p e below s₁ (mkF m 22 #[.val (.ref a1), .val (.int (1 : Int32)), .val (.int (4 : Int32)), .val (.int (2 : Int32)), .val (.int x2)] []) _
  refine own_st (fun t_ k_ => XS.aloadN X0.here hx rfl (hb hby d2_22) rfl rfl k_) ?_
  show own_Go p e below s₁ (mkF m 23 #[.val (.ref a1), .val (.int (1 : Int32)), .val (.int (4 : Int32)), .val (.int (2 : Int32)), .val (.int x2)] [(.ref a1)]) _
  refine own_st (fun t_ k_ => XS.iloadN X0.here hx rfl (hb hby d2_23) rfl k_) ?_
  show own_Go p e below s₁ (mkF m 24 #[.val (.ref a1), .val (.int (1 : Int32)), .val (.int (4 : Int32)), .val (.int (2 : Int32)), .val (.int x2)] [(.int (1 : Int32)), (.ref a1)]) _
  obtain ⟨cl2, Ar2, q2, Sz2, Nn2, Hh2, Gg2⟩ := id pV_a1
  have hin2 : ¬ ((1 : Int32) < 0 ∨ cl2.slots.size ≤ ((1 : Int32)).toNatClampNeg) := inb_of Sz2 ⟨by decide, by decide⟩
  have hat2 : cl2.slots[((1 : Int32)).toNatClampNeg]? = some (.int x1) := Has.at Hh2 hin2 rfl
  refine own_st (fun t_ k_ => X0.iaload hx (j := (1 : Int32)) (v := (.int x1)) (by rw [e0]; exact Ar2.1) (State.isArrayOf_alike hZ.alike Ar2.2.1) Ar2.2.2 hin2 hat2 (g := (mkF m 24 #[.val (.ref a1), .val (.int (1 : Int32)), .val (.int (4 : Int32)), .val (.int (2 : Int32)), .val (.int x2)] [(.int (1 : Int32)), (.ref a1)])) rfl rfl (hb hby d2_24) _ k_) ?_
  show own_Go p e below s₁ (mkF m 25 #[.val (.ref a1), .val (.int (1 : Int32)), .val (.int (4 : Int32)), .val (.int (2 : Int32)), .val (.int x2)] [(.int x1)]) _
  refine own_st (fun t_ k_ => XS.iload X0.here hx rfl (hb hby d2_25) rfl k_) ?_
  show own_Go p e below s₁ (mkF m 27 #[.val (.ref a1), .val (.int (1 : Int32)), .val (.int (4 : Int32)), .val (.int (2 : Int32)), .val (.int x2)] [(.int x2), (.int x1)]) _
  refine own_st (fun t_ k_ => XS.icmpYes X0.here hx rfl (pc0 := 27) (pc' := 32) rfl (hb hby d2_27) rfl (feq hd).2 (by decide) (by decide) k_) ?_
  show own_Go p e below s₁ (mkF m 32 #[.val (.ref a1), .val (.int (1 : Int32)), .val (.int (4 : Int32)), .val (.int (2 : Int32)), .val (.int x2)] []) _
  refine own_st (fun t_ k_ => XS.iconst X0.here hx rfl (hb hby d2_32) k_) ?_
  show own_Go p e below s₁ (mkF m 33 #[.val (.ref a1), .val (.int (1 : Int32)), .val (.int (4 : Int32)), .val (.int (2 : Int32)), .val (.int x2)] [(.int (1 : Int32))]) _
  obtain ⟨fs, hr, hrun, hended, hW, hsame⟩ := X0.leave (v := some (.int (1 : Int32))) (fun h => by rw [Bd.returns] at h; cases h)
  refine own_fin (retN X0 hx (t := .boolean) Bd.returns (by simp) (hb hby d2_33) hr) ⟨hrun, hended, _, _, rfl, ?_, ⟨_, rfl⟩, hW, hsame.mono (by decide) (by decide)⟩
  show Q_rmOk_1_4_2 Z a1 ki x0 x1 x2 x3 h0 n0 _ s₁.heap _
  rw [e0]
  exact ⟨rfl, N0, rfl⟩
theorem ef_rmOk_2_4_2 (m : MethodId) (x0 : Addr) (x1 : Int32) (x2 : Int32) (x3 : Int32) (x4 : Int32) : entryFrame m #[(.ref x0), (.int x1), (.int x2), (.int x3), (.int x4)] 5 = mkF m 0 #[.val (.ref x0), .val (.int x1), .val (.int x2), .val (.int x3), .val (.int x4)] [] := by first | (simp [entryFrame, mkF, argsToLocals, Value.category]; done) | rfl
def Q_rmOk_2_4_2 (Z : State) (a1 : Addr) (ki : ClassId) (x0 : Int32) (x1 : Int32) (x2 : Int32) (x3 : Int32) (h0 : Heap) (n0 : Nat) (v : Option Value) (h : Heap) (L : List Loc) : Prop := v = some (.int (1 : Int32)) ∧ Fr n0 L ∧ h = h0
set_option maxRecDepth 65536 in
set_option maxHeartbeats 40000000 in
theorem rmOk_2_4_2 (l : Launch) (Z : State) (a0 : Array Value) (hw : ∀ d ∈ tables_1, d.before a0 Z = true) (ws : List Jvm.Cond) (a1 : Addr) (ki : ClassId) (x0 : Int32) (x1 : Int32) (x2 : Int32) (x3 : Int32) (h0 : Heap) (n0 : Nat) (Z0 : n0 ≤ h0.size) (pV_a1 : Arv Z h0 a1 ki .int (4 : Int32) [(.int x0), (.int x1), (.int x2), (.int x3)] (.int (0 : Int32))) :
    MetFree l (⟨"com/example/spillback/spillback/behaviour/PlanSelectorHighestPinLaw", "ok", "([IIIII)Z"⟩ : MethodName) (head1 (Jvm.Cond.code (⟨"com/example/spillback/spillback/behaviour/PlanSelectorHighestPinLaw", "ok", "([IIIII)Z"⟩ : MethodName) method_3_code 5 (some .boolean) :: ws) ({ frames := 0, cells := 0, slots := 0, locals := 0 } : Room)) (fun a U => a = #[(.ref a1), (.int (2 : Int32)), (.int (4 : Int32)), (.int (2 : Int32)), (.int x2)] ∧ Z.Warmed39 U.vm ∧ U.heap = h0) (fun _ _ _ _ _ => True) (fun _ U o U' => ∃ v L, o = .returned v ∧ Q_rmOk_2_4_2 Z a1 ki x0 x1 x2 x3 h0 n0 v U'.heap L ∧ FrameEnd U o U' L ({ frames := 0, cells := 0, slots := 0, locals := 0 } : Room).cells ({ frames := 0, cells := 0, slots := 0, locals := 0 } : Room).slots) := by
  refine MetFree.of_bodySF (plainFor_of_name pn_2) hisR ?_
  intro p e s m args below meth c s₁ Bd hml0 hP hK
  obtain ⟨rfl, hZ, hh⟩ := hP
  have hx := Bd.exec
  have hby := Bd.bytes
  have hml : c.maxLocals = 5 := hml0
  have hown : s.vm.findClass "com/example/spillback/spillback/behaviour/PlanSelectorHighestPinLaw" = some m.cls := findClass_of_methodNamed Bd.named
  have hnm := (name_of_methodNamed Bd.named Bd.method).1
  have X0 : Stand p l e ({ frames := 0, cells := 0, slots := 0, locals := 0 } : Room) s m #[(.ref a1), (.int (2 : Int32)), (.int (4 : Int32)), (.int (2 : Int32)), (.int x2)] below meth c s₁ [] 0 0 := Stand.of_body Bd
  have e0 : s₁.heap = h0 := by rw [← hh, Bd.state]; rfl
  have N0 := Fr.nil n0
  refine own_enter (ef_rmOk_2_4_2 m a1 ((2 : Int32)) ((4 : Int32)) ((2 : Int32)) x2) ?_
  have hn : ¬ (x2 < x2) := by rw [Int32.lt_iff_toInt_lt]; omega
  refine own_st (fun t_ k_ => XS.iloadN X0.here hx rfl (hb hby d2_0) rfl k_) ?_
  show own_Go p e below s₁ (mkF m 1 #[.val (.ref a1), .val (.int (2 : Int32)), .val (.int (4 : Int32)), .val (.int (2 : Int32)), .val (.int x2)] [(.int (2 : Int32))]) _
  refine own_st (fun t_ k_ => XS.iloadN X0.here hx rfl (hb hby d2_1) rfl k_) ?_
  show own_Go p e below s₁ (mkF m 2 #[.val (.ref a1), .val (.int (2 : Int32)), .val (.int (4 : Int32)), .val (.int (2 : Int32)), .val (.int x2)] [(.int (4 : Int32)), (.int (2 : Int32))]) _
  refine own_st (fun t_ k_ => XS.icmpYes X0.here hx rfl (pc0 := 2) (pc' := 7) rfl (hb hby d2_2) rfl (by decide) (by decide) (by decide) k_) ?_
  show own_Go p e below s₁ (mkF m 7 #[.val (.ref a1), .val (.int (2 : Int32)), .val (.int (4 : Int32)), .val (.int (2 : Int32)), .val (.int x2)] []) _
  refine own_st (fun t_ k_ => XS.aloadN X0.here hx rfl (hb hby d2_7) rfl rfl k_) ?_
  show own_Go p e below s₁ (mkF m 8 #[.val (.ref a1), .val (.int (2 : Int32)), .val (.int (4 : Int32)), .val (.int (2 : Int32)), .val (.int x2)] [(.ref a1)]) _
  refine own_st (fun t_ k_ => XS.iloadN X0.here hx rfl (hb hby d2_8) rfl k_) ?_
  show own_Go p e below s₁ (mkF m 9 #[.val (.ref a1), .val (.int (2 : Int32)), .val (.int (4 : Int32)), .val (.int (2 : Int32)), .val (.int x2)] [(.int (2 : Int32)), (.ref a1)]) _
  obtain ⟨cl1, Ar1, q1, Sz1, Nn1, Hh1, Gg1⟩ := id pV_a1
  have hin1 : ¬ ((2 : Int32) < 0 ∨ cl1.slots.size ≤ ((2 : Int32)).toNatClampNeg) := inb_of Sz1 ⟨by decide, by decide⟩
  have hat1 : cl1.slots[((2 : Int32)).toNatClampNeg]? = some (.int x2) := Has.at Hh1 hin1 rfl
  refine own_st (fun t_ k_ => X0.iaload hx (j := (2 : Int32)) (v := (.int x2)) (by rw [e0]; exact Ar1.1) (State.isArrayOf_alike hZ.alike Ar1.2.1) Ar1.2.2 hin1 hat1 (g := (mkF m 9 #[.val (.ref a1), .val (.int (2 : Int32)), .val (.int (4 : Int32)), .val (.int (2 : Int32)), .val (.int x2)] [(.int (2 : Int32)), (.ref a1)])) rfl rfl (hb hby d2_9) _ k_) ?_
  show own_Go p e below s₁ (mkF m 10 #[.val (.ref a1), .val (.int (2 : Int32)), .val (.int (4 : Int32)), .val (.int (2 : Int32)), .val (.int x2)] [(.int x2)]) _
  refine own_st (fun t_ k_ => XS.iload X0.here hx rfl (hb hby d2_10) rfl k_) ?_
  show own_Go p e below s₁ (mkF m 12 #[.val (.ref a1), .val (.int (2 : Int32)), .val (.int (4 : Int32)), .val (.int (2 : Int32)), .val (.int x2)] [(.int x2), (.int x2)]) _
  refine own_st (fun t_ k_ => XS.icmpYes X0.here hx rfl (pc0 := 12) (pc' := 17) rfl (hb hby d2_12) rfl (flt hn).2.2.2 (by decide) (by decide) k_) ?_
  show own_Go p e below s₁ (mkF m 17 #[.val (.ref a1), .val (.int (2 : Int32)), .val (.int (4 : Int32)), .val (.int (2 : Int32)), .val (.int x2)] []) _
  refine own_st (fun t_ k_ => XS.iloadN X0.here hx rfl (hb hby d2_17) rfl k_) ?_
  show own_Go p e below s₁ (mkF m 18 #[.val (.ref a1), .val (.int (2 : Int32)), .val (.int (4 : Int32)), .val (.int (2 : Int32)), .val (.int x2)] [(.int (2 : Int32))]) _
  refine own_st (fun t_ k_ => XS.iloadN X0.here hx rfl (hb hby d2_18) rfl k_) ?_
  show own_Go p e below s₁ (mkF m 19 #[.val (.ref a1), .val (.int (2 : Int32)), .val (.int (4 : Int32)), .val (.int (2 : Int32)), .val (.int x2)] [(.int (2 : Int32)), (.int (2 : Int32))]) _
  refine own_st (fun t_ k_ => XS.icmpYes X0.here hx rfl (pc0 := 19) (pc' := 32) rfl (hb hby d2_19) rfl (by decide) (by decide) (by decide) k_) ?_
  show own_Go p e below s₁ (mkF m 32 #[.val (.ref a1), .val (.int (2 : Int32)), .val (.int (4 : Int32)), .val (.int (2 : Int32)), .val (.int x2)] []) _
  refine own_st (fun t_ k_ => XS.iconst X0.here hx rfl (hb hby d2_32) k_) ?_
  show own_Go p e below s₁ (mkF m 33 #[.val (.ref a1), .val (.int (2 : Int32)), .val (.int (4 : Int32)), .val (.int (2 : Int32)), .val (.int x2)] [(.int (1 : Int32))]) _
  obtain ⟨fs, hr, hrun, hended, hW, hsame⟩ := X0.leave (v := some (.int (1 : Int32))) (fun h => by rw [Bd.returns] at h; cases h)
  refine own_fin (retN X0 hx (t := .boolean) Bd.returns (by simp) (hb hby d2_33) hr) ⟨hrun, hended, _, _, rfl, ?_, ⟨_, rfl⟩, hW, hsame.mono (by decide) (by decide)⟩
  show Q_rmOk_2_4_2 Z a1 ki x0 x1 x2 x3 h0 n0 _ s₁.heap _
  rw [e0]
  exact ⟨rfl, N0, rfl⟩
theorem ef_rmOk_3_4_2 (m : MethodId) (x0 : Addr) (x1 : Int32) (x2 : Int32) (x3 : Int32) (x4 : Int32) : entryFrame m #[(.ref x0), (.int x1), (.int x2), (.int x3), (.int x4)] 5 = mkF m 0 #[.val (.ref x0), .val (.int x1), .val (.int x2), .val (.int x3), .val (.int x4)] [] := by first | (simp [entryFrame, mkF, argsToLocals, Value.category]; done) | rfl
def Q_rmOk_3_4_2 (Z : State) (a1 : Addr) (ki : ClassId) (x0 : Int32) (x1 : Int32) (x2 : Int32) (x3 : Int32) (h0 : Heap) (n0 : Nat) (v : Option Value) (h : Heap) (L : List Loc) : Prop := v = some (.int (1 : Int32)) ∧ Fr n0 L ∧ h = h0
set_option maxRecDepth 65536 in
set_option maxHeartbeats 40000000 in
theorem rmOk_3_4_2 (l : Launch) (Z : State) (a0 : Array Value) (hw : ∀ d ∈ tables_1, d.before a0 Z = true) (ws : List Jvm.Cond) (a1 : Addr) (ki : ClassId) (x0 : Int32) (x1 : Int32) (x2 : Int32) (x3 : Int32) (h0 : Heap) (n0 : Nat) (Z0 : n0 ≤ h0.size) (pV_a1 : Arv Z h0 a1 ki .int (4 : Int32) [(.int x0), (.int x1), (.int x2), (.int x3)] (.int (0 : Int32))) (hle : (x3.toInt ≤ x2.toInt)) :
    MetFree l (⟨"com/example/spillback/spillback/behaviour/PlanSelectorHighestPinLaw", "ok", "([IIIII)Z"⟩ : MethodName) (head1 (Jvm.Cond.code (⟨"com/example/spillback/spillback/behaviour/PlanSelectorHighestPinLaw", "ok", "([IIIII)Z"⟩ : MethodName) method_3_code 5 (some .boolean) :: ws) ({ frames := 0, cells := 0, slots := 0, locals := 0 } : Room)) (fun a U => a = #[(.ref a1), (.int (3 : Int32)), (.int (4 : Int32)), (.int (2 : Int32)), (.int x2)] ∧ Z.Warmed39 U.vm ∧ U.heap = h0) (fun _ _ _ _ _ => True) (fun _ U o U' => ∃ v L, o = .returned v ∧ Q_rmOk_3_4_2 Z a1 ki x0 x1 x2 x3 h0 n0 v U'.heap L ∧ FrameEnd U o U' L ({ frames := 0, cells := 0, slots := 0, locals := 0 } : Room).cells ({ frames := 0, cells := 0, slots := 0, locals := 0 } : Room).slots) := by
  refine MetFree.of_bodySF (plainFor_of_name pn_2) hisR ?_
  intro p e s m args below meth c s₁ Bd hml0 hP hK
  obtain ⟨rfl, hZ, hh⟩ := hP
  have hx := Bd.exec
  have hby := Bd.bytes
  have hml : c.maxLocals = 5 := hml0
  have hown : s.vm.findClass "com/example/spillback/spillback/behaviour/PlanSelectorHighestPinLaw" = some m.cls := findClass_of_methodNamed Bd.named
  have hnm := (name_of_methodNamed Bd.named Bd.method).1
  have X0 : Stand p l e ({ frames := 0, cells := 0, slots := 0, locals := 0 } : Room) s m #[(.ref a1), (.int (3 : Int32)), (.int (4 : Int32)), (.int (2 : Int32)), (.int x2)] below meth c s₁ [] 0 0 := Stand.of_body Bd
  have e0 : s₁.heap = h0 := by rw [← hh, Bd.state]; rfl
  have N0 := Fr.nil n0
  refine own_enter (ef_rmOk_3_4_2 m a1 ((3 : Int32)) ((4 : Int32)) ((2 : Int32)) x2) ?_
  have hn : ¬ (x2 < x3) := by rw [Int32.lt_iff_toInt_lt]; omega
  refine own_st (fun t_ k_ => XS.iloadN X0.here hx rfl (hb hby d2_0) rfl k_) ?_
  show own_Go p e below s₁ (mkF m 1 #[.val (.ref a1), .val (.int (3 : Int32)), .val (.int (4 : Int32)), .val (.int (2 : Int32)), .val (.int x2)] [(.int (3 : Int32))]) _
  refine own_st (fun t_ k_ => XS.iloadN X0.here hx rfl (hb hby d2_1) rfl k_) ?_
  show own_Go p e below s₁ (mkF m 2 #[.val (.ref a1), .val (.int (3 : Int32)), .val (.int (4 : Int32)), .val (.int (2 : Int32)), .val (.int x2)] [(.int (4 : Int32)), (.int (3 : Int32))]) _
  refine own_st (fun t_ k_ => XS.icmpYes X0.here hx rfl (pc0 := 2) (pc' := 7) rfl (hb hby d2_2) rfl (by decide) (by decide) (by decide) k_) ?_
  show own_Go p e below s₁ (mkF m 7 #[.val (.ref a1), .val (.int (3 : Int32)), .val (.int (4 : Int32)), .val (.int (2 : Int32)), .val (.int x2)] []) _
  refine own_st (fun t_ k_ => XS.aloadN X0.here hx rfl (hb hby d2_7) rfl rfl k_) ?_
  show own_Go p e below s₁ (mkF m 8 #[.val (.ref a1), .val (.int (3 : Int32)), .val (.int (4 : Int32)), .val (.int (2 : Int32)), .val (.int x2)] [(.ref a1)]) _
  refine own_st (fun t_ k_ => XS.iloadN X0.here hx rfl (hb hby d2_8) rfl k_) ?_
  show own_Go p e below s₁ (mkF m 9 #[.val (.ref a1), .val (.int (3 : Int32)), .val (.int (4 : Int32)), .val (.int (2 : Int32)), .val (.int x2)] [(.int (3 : Int32)), (.ref a1)]) _
  obtain ⟨cl1, Ar1, q1, Sz1, Nn1, Hh1, Gg1⟩ := id pV_a1
  have hin1 : ¬ ((3 : Int32) < 0 ∨ cl1.slots.size ≤ ((3 : Int32)).toNatClampNeg) := inb_of Sz1 ⟨by decide, by decide⟩
  have hat1 : cl1.slots[((3 : Int32)).toNatClampNeg]? = some (.int x3) := Has.at Hh1 hin1 rfl
  refine own_st (fun t_ k_ => X0.iaload hx (j := (3 : Int32)) (v := (.int x3)) (by rw [e0]; exact Ar1.1) (State.isArrayOf_alike hZ.alike Ar1.2.1) Ar1.2.2 hin1 hat1 (g := (mkF m 9 #[.val (.ref a1), .val (.int (3 : Int32)), .val (.int (4 : Int32)), .val (.int (2 : Int32)), .val (.int x2)] [(.int (3 : Int32)), (.ref a1)])) rfl rfl (hb hby d2_9) _ k_) ?_
  show own_Go p e below s₁ (mkF m 10 #[.val (.ref a1), .val (.int (3 : Int32)), .val (.int (4 : Int32)), .val (.int (2 : Int32)), .val (.int x2)] [(.int x3)]) _
  refine own_st (fun t_ k_ => XS.iload X0.here hx rfl (hb hby d2_10) rfl k_) ?_
  show own_Go p e below s₁ (mkF m 12 #[.val (.ref a1), .val (.int (3 : Int32)), .val (.int (4 : Int32)), .val (.int (2 : Int32)), .val (.int x2)] [(.int x2), (.int x3)]) _
  refine own_st (fun t_ k_ => XS.icmpYes X0.here hx rfl (pc0 := 12) (pc' := 17) rfl (hb hby d2_12) rfl (flt hn).2.2.2 (by decide) (by decide) k_) ?_
  show own_Go p e below s₁ (mkF m 17 #[.val (.ref a1), .val (.int (3 : Int32)), .val (.int (4 : Int32)), .val (.int (2 : Int32)), .val (.int x2)] []) _
  refine own_st (fun t_ k_ => XS.iloadN X0.here hx rfl (hb hby d2_17) rfl k_) ?_
  show own_Go p e below s₁ (mkF m 18 #[.val (.ref a1), .val (.int (3 : Int32)), .val (.int (4 : Int32)), .val (.int (2 : Int32)), .val (.int x2)] [(.int (3 : Int32))]) _
  refine own_st (fun t_ k_ => XS.iloadN X0.here hx rfl (hb hby d2_18) rfl k_) ?_
  show own_Go p e below s₁ (mkF m 19 #[.val (.ref a1), .val (.int (3 : Int32)), .val (.int (4 : Int32)), .val (.int (2 : Int32)), .val (.int x2)] [(.int (2 : Int32)), (.int (3 : Int32))]) _
  refine own_st (fun t_ k_ => XS.icmpYes X0.here hx rfl (pc0 := 19) (pc' := 32) rfl (hb hby d2_19) rfl (by decide) (by decide) (by decide) k_) ?_
  show own_Go p e below s₁ (mkF m 32 #[.val (.ref a1), .val (.int (3 : Int32)), .val (.int (4 : Int32)), .val (.int (2 : Int32)), .val (.int x2)] []) _
  refine own_st (fun t_ k_ => XS.iconst X0.here hx rfl (hb hby d2_32) k_) ?_
  show own_Go p e below s₁ (mkF m 33 #[.val (.ref a1), .val (.int (3 : Int32)), .val (.int (4 : Int32)), .val (.int (2 : Int32)), .val (.int x2)] [(.int (1 : Int32))]) _
  obtain ⟨fs, hr, hrun, hended, hW, hsame⟩ := X0.leave (v := some (.int (1 : Int32))) (fun h => by rw [Bd.returns] at h; cases h)
  refine own_fin (retN X0 hx (t := .boolean) Bd.returns (by simp) (hb hby d2_33) hr) ⟨hrun, hended, _, _, rfl, ?_, ⟨_, rfl⟩, hW, hsame.mono (by decide) (by decide)⟩
  show Q_rmOk_3_4_2 Z a1 ki x0 x1 x2 x3 h0 n0 _ s₁.heap _
  rw [e0]
  exact ⟨rfl, N0, rfl⟩
theorem ef_rmOk_0_4_3 (m : MethodId) (x0 : Addr) (x1 : Int32) (x2 : Int32) (x3 : Int32) (x4 : Int32) : entryFrame m #[(.ref x0), (.int x1), (.int x2), (.int x3), (.int x4)] 5 = mkF m 0 #[.val (.ref x0), .val (.int x1), .val (.int x2), .val (.int x3), .val (.int x4)] [] := by first | (simp [entryFrame, mkF, argsToLocals, Value.category]; done) | rfl
def Q_rmOk_0_4_3 (Z : State) (a1 : Addr) (ki : ClassId) (x0 : Int32) (x1 : Int32) (x2 : Int32) (x3 : Int32) (h0 : Heap) (n0 : Nat) (v : Option Value) (h : Heap) (L : List Loc) : Prop := v = some (.int (1 : Int32)) ∧ Fr n0 L ∧ h = h0
set_option maxRecDepth 65536 in
set_option maxHeartbeats 40000000 in
theorem rmOk_0_4_3 (l : Launch) (Z : State) (a0 : Array Value) (hw : ∀ d ∈ tables_1, d.before a0 Z = true) (ws : List Jvm.Cond) (a1 : Addr) (ki : ClassId) (x0 : Int32) (x1 : Int32) (x2 : Int32) (x3 : Int32) (h0 : Heap) (n0 : Nat) (Z0 : n0 ≤ h0.size) (pV_a1 : Arv Z h0 a1 ki .int (4 : Int32) [(.int x0), (.int x1), (.int x2), (.int x3)] (.int (0 : Int32))) (hle : (x0.toInt < x3.toInt)) :
    MetFree l (⟨"com/example/spillback/spillback/behaviour/PlanSelectorHighestPinLaw", "ok", "([IIIII)Z"⟩ : MethodName) (head1 (Jvm.Cond.code (⟨"com/example/spillback/spillback/behaviour/PlanSelectorHighestPinLaw", "ok", "([IIIII)Z"⟩ : MethodName) method_3_code 5 (some .boolean) :: ws) ({ frames := 0, cells := 0, slots := 0, locals := 0 } : Room)) (fun a U => a = #[(.ref a1), (.int (0 : Int32)), (.int (4 : Int32)), (.int (3 : Int32)), (.int x3)] ∧ Z.Warmed39 U.vm ∧ U.heap = h0) (fun _ _ _ _ _ => True) (fun _ U o U' => ∃ v L, o = .returned v ∧ Q_rmOk_0_4_3 Z a1 ki x0 x1 x2 x3 h0 n0 v U'.heap L ∧ FrameEnd U o U' L ({ frames := 0, cells := 0, slots := 0, locals := 0 } : Room).cells ({ frames := 0, cells := 0, slots := 0, locals := 0 } : Room).slots) := by
  refine MetFree.of_bodySF (plainFor_of_name pn_2) hisR ?_
  intro p e s m args below meth c s₁ Bd hml0 hP hK
  obtain ⟨rfl, hZ, hh⟩ := hP
  have hx := Bd.exec
  have hby := Bd.bytes
  have hml : c.maxLocals = 5 := hml0
  have hown : s.vm.findClass "com/example/spillback/spillback/behaviour/PlanSelectorHighestPinLaw" = some m.cls := findClass_of_methodNamed Bd.named
  have hnm := (name_of_methodNamed Bd.named Bd.method).1
  have X0 : Stand p l e ({ frames := 0, cells := 0, slots := 0, locals := 0 } : Room) s m #[(.ref a1), (.int (0 : Int32)), (.int (4 : Int32)), (.int (3 : Int32)), (.int x3)] below meth c s₁ [] 0 0 := Stand.of_body Bd
  have e0 : s₁.heap = h0 := by rw [← hh, Bd.state]; rfl
  have N0 := Fr.nil n0
  refine own_enter (ef_rmOk_0_4_3 m a1 ((0 : Int32)) ((4 : Int32)) ((3 : Int32)) x3) ?_
  have hn : ¬ (x3 < x0) := by rw [Int32.lt_iff_toInt_lt]; omega
  have hd : ¬ (x0 = x3) := fun q => by subst q; omega
  refine own_st (fun t_ k_ => XS.iloadN X0.here hx rfl (hb hby d2_0) rfl k_) ?_
  show own_Go p e below s₁ (mkF m 1 #[.val (.ref a1), .val (.int (0 : Int32)), .val (.int (4 : Int32)), .val (.int (3 : Int32)), .val (.int x3)] [(.int (0 : Int32))]) _
  refine own_st (fun t_ k_ => XS.iloadN X0.here hx rfl (hb hby d2_1) rfl k_) ?_
  show own_Go p e below s₁ (mkF m 2 #[.val (.ref a1), .val (.int (0 : Int32)), .val (.int (4 : Int32)), .val (.int (3 : Int32)), .val (.int x3)] [(.int (4 : Int32)), (.int (0 : Int32))]) _
  refine own_st (fun t_ k_ => XS.icmpYes X0.here hx rfl (pc0 := 2) (pc' := 7) rfl (hb hby d2_2) rfl (by decide) (by decide) (by decide) k_) ?_
  show own_Go p e below s₁ (mkF m 7 #[.val (.ref a1), .val (.int (0 : Int32)), .val (.int (4 : Int32)), .val (.int (3 : Int32)), .val (.int x3)] []) _
  refine own_st (fun t_ k_ => XS.aloadN X0.here hx rfl (hb hby d2_7) rfl rfl k_) ?_
  show own_Go p e below s₁ (mkF m 8 #[.val (.ref a1), .val (.int (0 : Int32)), .val (.int (4 : Int32)), .val (.int (3 : Int32)), .val (.int x3)] [(.ref a1)]) _
  refine own_st (fun t_ k_ => XS.iloadN X0.here hx rfl (hb hby d2_8) rfl k_) ?_
  show own_Go p e below s₁ (mkF m 9 #[.val (.ref a1), .val (.int (0 : Int32)), .val (.int (4 : Int32)), .val (.int (3 : Int32)), .val (.int x3)] [(.int (0 : Int32)), (.ref a1)]) _
  obtain ⟨cl1, Ar1, q1, Sz1, Nn1, Hh1, Gg1⟩ := id pV_a1
  have hin1 : ¬ ((0 : Int32) < 0 ∨ cl1.slots.size ≤ ((0 : Int32)).toNatClampNeg) := inb_of Sz1 ⟨by decide, by decide⟩
  have hat1 : cl1.slots[((0 : Int32)).toNatClampNeg]? = some (.int x0) := Has.at Hh1 hin1 rfl
  refine own_st (fun t_ k_ => X0.iaload hx (j := (0 : Int32)) (v := (.int x0)) (by rw [e0]; exact Ar1.1) (State.isArrayOf_alike hZ.alike Ar1.2.1) Ar1.2.2 hin1 hat1 (g := (mkF m 9 #[.val (.ref a1), .val (.int (0 : Int32)), .val (.int (4 : Int32)), .val (.int (3 : Int32)), .val (.int x3)] [(.int (0 : Int32)), (.ref a1)])) rfl rfl (hb hby d2_9) _ k_) ?_
  show own_Go p e below s₁ (mkF m 10 #[.val (.ref a1), .val (.int (0 : Int32)), .val (.int (4 : Int32)), .val (.int (3 : Int32)), .val (.int x3)] [(.int x0)]) _
  refine own_st (fun t_ k_ => XS.iload X0.here hx rfl (hb hby d2_10) rfl k_) ?_
  show own_Go p e below s₁ (mkF m 12 #[.val (.ref a1), .val (.int (0 : Int32)), .val (.int (4 : Int32)), .val (.int (3 : Int32)), .val (.int x3)] [(.int x3), (.int x0)]) _
  refine own_st (fun t_ k_ => XS.icmpYes X0.here hx rfl (pc0 := 12) (pc' := 17) rfl (hb hby d2_12) rfl (flt hn).2.2.2 (by decide) (by decide) k_) ?_
  show own_Go p e below s₁ (mkF m 17 #[.val (.ref a1), .val (.int (0 : Int32)), .val (.int (4 : Int32)), .val (.int (3 : Int32)), .val (.int x3)] []) _
  refine own_st (fun t_ k_ => XS.iloadN X0.here hx rfl (hb hby d2_17) rfl k_) ?_
  show own_Go p e below s₁ (mkF m 18 #[.val (.ref a1), .val (.int (0 : Int32)), .val (.int (4 : Int32)), .val (.int (3 : Int32)), .val (.int x3)] [(.int (0 : Int32))]) _
  refine own_st (fun t_ k_ => XS.iloadN X0.here hx rfl (hb hby d2_18) rfl k_) ?_
  show own_Go p e below s₁ (mkF m 19 #[.val (.ref a1), .val (.int (0 : Int32)), .val (.int (4 : Int32)), .val (.int (3 : Int32)), .val (.int x3)] [(.int (3 : Int32)), (.int (0 : Int32))]) _
  refine own_st (fun t_ k_ => XS.icmpNo X0.here hx rfl (hb hby d2_19) rfl (by decide) k_) ?_
  show own_Go p e below s₁ (mkF m 22 #[.val (.ref a1), .val (.int (0 : Int32)), .val (.int (4 : Int32)), .val (.int (3 : Int32)), .val (.int x3)] []) _
  refine own_st (fun t_ k_ => XS.aloadN X0.here hx rfl (hb hby d2_22) rfl rfl k_) ?_
  show own_Go p e below s₁ (mkF m 23 #[.val (.ref a1), .val (.int (0 : Int32)), .val (.int (4 : Int32)), .val (.int (3 : Int32)), .val (.int x3)] [(.ref a1)]) _
  refine own_st (fun t_ k_ => XS.iloadN X0.here hx rfl (hb hby d2_23) rfl k_) ?_
  show own_Go p e below s₁ (mkF m 24 #[.val (.ref a1), .val (.int (0 : Int32)), .val (.int (4 : Int32)), .val (.int (3 : Int32)), .val (.int x3)] [(.int (0 : Int32)), (.ref a1)]) _
  obtain ⟨cl2, Ar2, q2, Sz2, Nn2, Hh2, Gg2⟩ := id pV_a1
  have hin2 : ¬ ((0 : Int32) < 0 ∨ cl2.slots.size ≤ ((0 : Int32)).toNatClampNeg) := inb_of Sz2 ⟨by decide, by decide⟩
  have hat2 : cl2.slots[((0 : Int32)).toNatClampNeg]? = some (.int x0) := Has.at Hh2 hin2 rfl
  refine own_st (fun t_ k_ => X0.iaload hx (j := (0 : Int32)) (v := (.int x0)) (by rw [e0]; exact Ar2.1) (State.isArrayOf_alike hZ.alike Ar2.2.1) Ar2.2.2 hin2 hat2 (g := (mkF m 24 #[.val (.ref a1), .val (.int (0 : Int32)), .val (.int (4 : Int32)), .val (.int (3 : Int32)), .val (.int x3)] [(.int (0 : Int32)), (.ref a1)])) rfl rfl (hb hby d2_24) _ k_) ?_
  show own_Go p e below s₁ (mkF m 25 #[.val (.ref a1), .val (.int (0 : Int32)), .val (.int (4 : Int32)), .val (.int (3 : Int32)), .val (.int x3)] [(.int x0)]) _
  refine own_st (fun t_ k_ => XS.iload X0.here hx rfl (hb hby d2_25) rfl k_) ?_
  show own_Go p e below s₁ (mkF m 27 #[.val (.ref a1), .val (.int (0 : Int32)), .val (.int (4 : Int32)), .val (.int (3 : Int32)), .val (.int x3)] [(.int x3), (.int x0)]) _
  refine own_st (fun t_ k_ => XS.icmpYes X0.here hx rfl (pc0 := 27) (pc' := 32) rfl (hb hby d2_27) rfl (feq hd).2 (by decide) (by decide) k_) ?_
  show own_Go p e below s₁ (mkF m 32 #[.val (.ref a1), .val (.int (0 : Int32)), .val (.int (4 : Int32)), .val (.int (3 : Int32)), .val (.int x3)] []) _
  refine own_st (fun t_ k_ => XS.iconst X0.here hx rfl (hb hby d2_32) k_) ?_
  show own_Go p e below s₁ (mkF m 33 #[.val (.ref a1), .val (.int (0 : Int32)), .val (.int (4 : Int32)), .val (.int (3 : Int32)), .val (.int x3)] [(.int (1 : Int32))]) _
  obtain ⟨fs, hr, hrun, hended, hW, hsame⟩ := X0.leave (v := some (.int (1 : Int32))) (fun h => by rw [Bd.returns] at h; cases h)
  refine own_fin (retN X0 hx (t := .boolean) Bd.returns (by simp) (hb hby d2_33) hr) ⟨hrun, hended, _, _, rfl, ?_, ⟨_, rfl⟩, hW, hsame.mono (by decide) (by decide)⟩
  show Q_rmOk_0_4_3 Z a1 ki x0 x1 x2 x3 h0 n0 _ s₁.heap _
  rw [e0]
  exact ⟨rfl, N0, rfl⟩
theorem ef_rmOk_1_4_3 (m : MethodId) (x0 : Addr) (x1 : Int32) (x2 : Int32) (x3 : Int32) (x4 : Int32) : entryFrame m #[(.ref x0), (.int x1), (.int x2), (.int x3), (.int x4)] 5 = mkF m 0 #[.val (.ref x0), .val (.int x1), .val (.int x2), .val (.int x3), .val (.int x4)] [] := by first | (simp [entryFrame, mkF, argsToLocals, Value.category]; done) | rfl
def Q_rmOk_1_4_3 (Z : State) (a1 : Addr) (ki : ClassId) (x0 : Int32) (x1 : Int32) (x2 : Int32) (x3 : Int32) (h0 : Heap) (n0 : Nat) (v : Option Value) (h : Heap) (L : List Loc) : Prop := v = some (.int (1 : Int32)) ∧ Fr n0 L ∧ h = h0
set_option maxRecDepth 65536 in
set_option maxHeartbeats 40000000 in
theorem rmOk_1_4_3 (l : Launch) (Z : State) (a0 : Array Value) (hw : ∀ d ∈ tables_1, d.before a0 Z = true) (ws : List Jvm.Cond) (a1 : Addr) (ki : ClassId) (x0 : Int32) (x1 : Int32) (x2 : Int32) (x3 : Int32) (h0 : Heap) (n0 : Nat) (Z0 : n0 ≤ h0.size) (pV_a1 : Arv Z h0 a1 ki .int (4 : Int32) [(.int x0), (.int x1), (.int x2), (.int x3)] (.int (0 : Int32))) (hle : (x1.toInt < x3.toInt)) :
    MetFree l (⟨"com/example/spillback/spillback/behaviour/PlanSelectorHighestPinLaw", "ok", "([IIIII)Z"⟩ : MethodName) (head1 (Jvm.Cond.code (⟨"com/example/spillback/spillback/behaviour/PlanSelectorHighestPinLaw", "ok", "([IIIII)Z"⟩ : MethodName) method_3_code 5 (some .boolean) :: ws) ({ frames := 0, cells := 0, slots := 0, locals := 0 } : Room)) (fun a U => a = #[(.ref a1), (.int (1 : Int32)), (.int (4 : Int32)), (.int (3 : Int32)), (.int x3)] ∧ Z.Warmed39 U.vm ∧ U.heap = h0) (fun _ _ _ _ _ => True) (fun _ U o U' => ∃ v L, o = .returned v ∧ Q_rmOk_1_4_3 Z a1 ki x0 x1 x2 x3 h0 n0 v U'.heap L ∧ FrameEnd U o U' L ({ frames := 0, cells := 0, slots := 0, locals := 0 } : Room).cells ({ frames := 0, cells := 0, slots := 0, locals := 0 } : Room).slots) := by
  refine MetFree.of_bodySF (plainFor_of_name pn_2) hisR ?_
  intro p e s m args below meth c s₁ Bd hml0 hP hK
  obtain ⟨rfl, hZ, hh⟩ := hP
  have hx := Bd.exec
  have hby := Bd.bytes
  have hml : c.maxLocals = 5 := hml0
  have hown : s.vm.findClass "com/example/spillback/spillback/behaviour/PlanSelectorHighestPinLaw" = some m.cls := findClass_of_methodNamed Bd.named
  have hnm := (name_of_methodNamed Bd.named Bd.method).1
  have X0 : Stand p l e ({ frames := 0, cells := 0, slots := 0, locals := 0 } : Room) s m #[(.ref a1), (.int (1 : Int32)), (.int (4 : Int32)), (.int (3 : Int32)), (.int x3)] below meth c s₁ [] 0 0 := Stand.of_body Bd
  have e0 : s₁.heap = h0 := by rw [← hh, Bd.state]; rfl
  have N0 := Fr.nil n0
  refine own_enter (ef_rmOk_1_4_3 m a1 ((1 : Int32)) ((4 : Int32)) ((3 : Int32)) x3) ?_
  have hn : ¬ (x3 < x1) := by rw [Int32.lt_iff_toInt_lt]; omega
  have hd : ¬ (x1 = x3) := fun q => by subst q; omega
  refine own_st (fun t_ k_ => XS.iloadN X0.here hx rfl (hb hby d2_0) rfl k_) ?_
  show own_Go p e below s₁ (mkF m 1 #[.val (.ref a1), .val (.int (1 : Int32)), .val (.int (4 : Int32)), .val (.int (3 : Int32)), .val (.int x3)] [(.int (1 : Int32))]) _
  refine own_st (fun t_ k_ => XS.iloadN X0.here hx rfl (hb hby d2_1) rfl k_) ?_
  show own_Go p e below s₁ (mkF m 2 #[.val (.ref a1), .val (.int (1 : Int32)), .val (.int (4 : Int32)), .val (.int (3 : Int32)), .val (.int x3)] [(.int (4 : Int32)), (.int (1 : Int32))]) _
  refine own_st (fun t_ k_ => XS.icmpYes X0.here hx rfl (pc0 := 2) (pc' := 7) rfl (hb hby d2_2) rfl (by decide) (by decide) (by decide) k_) ?_
  show own_Go p e below s₁ (mkF m 7 #[.val (.ref a1), .val (.int (1 : Int32)), .val (.int (4 : Int32)), .val (.int (3 : Int32)), .val (.int x3)] []) _
  refine own_st (fun t_ k_ => XS.aloadN X0.here hx rfl (hb hby d2_7) rfl rfl k_) ?_
  show own_Go p e below s₁ (mkF m 8 #[.val (.ref a1), .val (.int (1 : Int32)), .val (.int (4 : Int32)), .val (.int (3 : Int32)), .val (.int x3)] [(.ref a1)]) _
  refine own_st (fun t_ k_ => XS.iloadN X0.here hx rfl (hb hby d2_8) rfl k_) ?_
  show own_Go p e below s₁ (mkF m 9 #[.val (.ref a1), .val (.int (1 : Int32)), .val (.int (4 : Int32)), .val (.int (3 : Int32)), .val (.int x3)] [(.int (1 : Int32)), (.ref a1)]) _
  obtain ⟨cl1, Ar1, q1, Sz1, Nn1, Hh1, Gg1⟩ := id pV_a1
  have hin1 : ¬ ((1 : Int32) < 0 ∨ cl1.slots.size ≤ ((1 : Int32)).toNatClampNeg) := inb_of Sz1 ⟨by decide, by decide⟩
  have hat1 : cl1.slots[((1 : Int32)).toNatClampNeg]? = some (.int x1) := Has.at Hh1 hin1 rfl
  refine own_st (fun t_ k_ => X0.iaload hx (j := (1 : Int32)) (v := (.int x1)) (by rw [e0]; exact Ar1.1) (State.isArrayOf_alike hZ.alike Ar1.2.1) Ar1.2.2 hin1 hat1 (g := (mkF m 9 #[.val (.ref a1), .val (.int (1 : Int32)), .val (.int (4 : Int32)), .val (.int (3 : Int32)), .val (.int x3)] [(.int (1 : Int32)), (.ref a1)])) rfl rfl (hb hby d2_9) _ k_) ?_
  show own_Go p e below s₁ (mkF m 10 #[.val (.ref a1), .val (.int (1 : Int32)), .val (.int (4 : Int32)), .val (.int (3 : Int32)), .val (.int x3)] [(.int x1)]) _
  refine own_st (fun t_ k_ => XS.iload X0.here hx rfl (hb hby d2_10) rfl k_) ?_
  show own_Go p e below s₁ (mkF m 12 #[.val (.ref a1), .val (.int (1 : Int32)), .val (.int (4 : Int32)), .val (.int (3 : Int32)), .val (.int x3)] [(.int x3), (.int x1)]) _
  refine own_st (fun t_ k_ => XS.icmpYes X0.here hx rfl (pc0 := 12) (pc' := 17) rfl (hb hby d2_12) rfl (flt hn).2.2.2 (by decide) (by decide) k_) ?_
  show own_Go p e below s₁ (mkF m 17 #[.val (.ref a1), .val (.int (1 : Int32)), .val (.int (4 : Int32)), .val (.int (3 : Int32)), .val (.int x3)] []) _
  refine own_st (fun t_ k_ => XS.iloadN X0.here hx rfl (hb hby d2_17) rfl k_) ?_
  show own_Go p e below s₁ (mkF m 18 #[.val (.ref a1), .val (.int (1 : Int32)), .val (.int (4 : Int32)), .val (.int (3 : Int32)), .val (.int x3)] [(.int (1 : Int32))]) _
  refine own_st (fun t_ k_ => XS.iloadN X0.here hx rfl (hb hby d2_18) rfl k_) ?_
  show own_Go p e below s₁ (mkF m 19 #[.val (.ref a1), .val (.int (1 : Int32)), .val (.int (4 : Int32)), .val (.int (3 : Int32)), .val (.int x3)] [(.int (3 : Int32)), (.int (1 : Int32))]) _
  refine own_st (fun t_ k_ => XS.icmpNo X0.here hx rfl (hb hby d2_19) rfl (by decide) k_) ?_
  show own_Go p e below s₁ (mkF m 22 #[.val (.ref a1), .val (.int (1 : Int32)), .val (.int (4 : Int32)), .val (.int (3 : Int32)), .val (.int x3)] []) _
  refine own_st (fun t_ k_ => XS.aloadN X0.here hx rfl (hb hby d2_22) rfl rfl k_) ?_
  show own_Go p e below s₁ (mkF m 23 #[.val (.ref a1), .val (.int (1 : Int32)), .val (.int (4 : Int32)), .val (.int (3 : Int32)), .val (.int x3)] [(.ref a1)]) _
  refine own_st (fun t_ k_ => XS.iloadN X0.here hx rfl (hb hby d2_23) rfl k_) ?_
  show own_Go p e below s₁ (mkF m 24 #[.val (.ref a1), .val (.int (1 : Int32)), .val (.int (4 : Int32)), .val (.int (3 : Int32)), .val (.int x3)] [(.int (1 : Int32)), (.ref a1)]) _
  obtain ⟨cl2, Ar2, q2, Sz2, Nn2, Hh2, Gg2⟩ := id pV_a1
  have hin2 : ¬ ((1 : Int32) < 0 ∨ cl2.slots.size ≤ ((1 : Int32)).toNatClampNeg) := inb_of Sz2 ⟨by decide, by decide⟩
  have hat2 : cl2.slots[((1 : Int32)).toNatClampNeg]? = some (.int x1) := Has.at Hh2 hin2 rfl
  refine own_st (fun t_ k_ => X0.iaload hx (j := (1 : Int32)) (v := (.int x1)) (by rw [e0]; exact Ar2.1) (State.isArrayOf_alike hZ.alike Ar2.2.1) Ar2.2.2 hin2 hat2 (g := (mkF m 24 #[.val (.ref a1), .val (.int (1 : Int32)), .val (.int (4 : Int32)), .val (.int (3 : Int32)), .val (.int x3)] [(.int (1 : Int32)), (.ref a1)])) rfl rfl (hb hby d2_24) _ k_) ?_
  show own_Go p e below s₁ (mkF m 25 #[.val (.ref a1), .val (.int (1 : Int32)), .val (.int (4 : Int32)), .val (.int (3 : Int32)), .val (.int x3)] [(.int x1)]) _
  refine own_st (fun t_ k_ => XS.iload X0.here hx rfl (hb hby d2_25) rfl k_) ?_
  show own_Go p e below s₁ (mkF m 27 #[.val (.ref a1), .val (.int (1 : Int32)), .val (.int (4 : Int32)), .val (.int (3 : Int32)), .val (.int x3)] [(.int x3), (.int x1)]) _
  refine own_st (fun t_ k_ => XS.icmpYes X0.here hx rfl (pc0 := 27) (pc' := 32) rfl (hb hby d2_27) rfl (feq hd).2 (by decide) (by decide) k_) ?_
  show own_Go p e below s₁ (mkF m 32 #[.val (.ref a1), .val (.int (1 : Int32)), .val (.int (4 : Int32)), .val (.int (3 : Int32)), .val (.int x3)] []) _
  refine own_st (fun t_ k_ => XS.iconst X0.here hx rfl (hb hby d2_32) k_) ?_
  show own_Go p e below s₁ (mkF m 33 #[.val (.ref a1), .val (.int (1 : Int32)), .val (.int (4 : Int32)), .val (.int (3 : Int32)), .val (.int x3)] [(.int (1 : Int32))]) _
  obtain ⟨fs, hr, hrun, hended, hW, hsame⟩ := X0.leave (v := some (.int (1 : Int32))) (fun h => by rw [Bd.returns] at h; cases h)
  refine own_fin (retN X0 hx (t := .boolean) Bd.returns (by simp) (hb hby d2_33) hr) ⟨hrun, hended, _, _, rfl, ?_, ⟨_, rfl⟩, hW, hsame.mono (by decide) (by decide)⟩
  show Q_rmOk_1_4_3 Z a1 ki x0 x1 x2 x3 h0 n0 _ s₁.heap _
  rw [e0]
  exact ⟨rfl, N0, rfl⟩
theorem ef_rmOk_2_4_3 (m : MethodId) (x0 : Addr) (x1 : Int32) (x2 : Int32) (x3 : Int32) (x4 : Int32) : entryFrame m #[(.ref x0), (.int x1), (.int x2), (.int x3), (.int x4)] 5 = mkF m 0 #[.val (.ref x0), .val (.int x1), .val (.int x2), .val (.int x3), .val (.int x4)] [] := by first | (simp [entryFrame, mkF, argsToLocals, Value.category]; done) | rfl
def Q_rmOk_2_4_3 (Z : State) (a1 : Addr) (ki : ClassId) (x0 : Int32) (x1 : Int32) (x2 : Int32) (x3 : Int32) (h0 : Heap) (n0 : Nat) (v : Option Value) (h : Heap) (L : List Loc) : Prop := v = some (.int (1 : Int32)) ∧ Fr n0 L ∧ h = h0
set_option maxRecDepth 65536 in
set_option maxHeartbeats 40000000 in
theorem rmOk_2_4_3 (l : Launch) (Z : State) (a0 : Array Value) (hw : ∀ d ∈ tables_1, d.before a0 Z = true) (ws : List Jvm.Cond) (a1 : Addr) (ki : ClassId) (x0 : Int32) (x1 : Int32) (x2 : Int32) (x3 : Int32) (h0 : Heap) (n0 : Nat) (Z0 : n0 ≤ h0.size) (pV_a1 : Arv Z h0 a1 ki .int (4 : Int32) [(.int x0), (.int x1), (.int x2), (.int x3)] (.int (0 : Int32))) (hle : (x2.toInt < x3.toInt)) :
    MetFree l (⟨"com/example/spillback/spillback/behaviour/PlanSelectorHighestPinLaw", "ok", "([IIIII)Z"⟩ : MethodName) (head1 (Jvm.Cond.code (⟨"com/example/spillback/spillback/behaviour/PlanSelectorHighestPinLaw", "ok", "([IIIII)Z"⟩ : MethodName) method_3_code 5 (some .boolean) :: ws) ({ frames := 0, cells := 0, slots := 0, locals := 0 } : Room)) (fun a U => a = #[(.ref a1), (.int (2 : Int32)), (.int (4 : Int32)), (.int (3 : Int32)), (.int x3)] ∧ Z.Warmed39 U.vm ∧ U.heap = h0) (fun _ _ _ _ _ => True) (fun _ U o U' => ∃ v L, o = .returned v ∧ Q_rmOk_2_4_3 Z a1 ki x0 x1 x2 x3 h0 n0 v U'.heap L ∧ FrameEnd U o U' L ({ frames := 0, cells := 0, slots := 0, locals := 0 } : Room).cells ({ frames := 0, cells := 0, slots := 0, locals := 0 } : Room).slots) := by
  refine MetFree.of_bodySF (plainFor_of_name pn_2) hisR ?_
  intro p e s m args below meth c s₁ Bd hml0 hP hK
  obtain ⟨rfl, hZ, hh⟩ := hP
  have hx := Bd.exec
  have hby := Bd.bytes
  have hml : c.maxLocals = 5 := hml0
  have hown : s.vm.findClass "com/example/spillback/spillback/behaviour/PlanSelectorHighestPinLaw" = some m.cls := findClass_of_methodNamed Bd.named
  have hnm := (name_of_methodNamed Bd.named Bd.method).1
  have X0 : Stand p l e ({ frames := 0, cells := 0, slots := 0, locals := 0 } : Room) s m #[(.ref a1), (.int (2 : Int32)), (.int (4 : Int32)), (.int (3 : Int32)), (.int x3)] below meth c s₁ [] 0 0 := Stand.of_body Bd
  have e0 : s₁.heap = h0 := by rw [← hh, Bd.state]; rfl
  have N0 := Fr.nil n0
  refine own_enter (ef_rmOk_2_4_3 m a1 ((2 : Int32)) ((4 : Int32)) ((3 : Int32)) x3) ?_
  have hn : ¬ (x3 < x2) := by rw [Int32.lt_iff_toInt_lt]; omega
  have hd : ¬ (x2 = x3) := fun q => by subst q; omega
  refine own_st (fun t_ k_ => XS.iloadN X0.here hx rfl (hb hby d2_0) rfl k_) ?_
  show own_Go p e below s₁ (mkF m 1 #[.val (.ref a1), .val (.int (2 : Int32)), .val (.int (4 : Int32)), .val (.int (3 : Int32)), .val (.int x3)] [(.int (2 : Int32))]) _
  refine own_st (fun t_ k_ => XS.iloadN X0.here hx rfl (hb hby d2_1) rfl k_) ?_
  show own_Go p e below s₁ (mkF m 2 #[.val (.ref a1), .val (.int (2 : Int32)), .val (.int (4 : Int32)), .val (.int (3 : Int32)), .val (.int x3)] [(.int (4 : Int32)), (.int (2 : Int32))]) _
  refine own_st (fun t_ k_ => XS.icmpYes X0.here hx rfl (pc0 := 2) (pc' := 7) rfl (hb hby d2_2) rfl (by decide) (by decide) (by decide) k_) ?_
  show own_Go p e below s₁ (mkF m 7 #[.val (.ref a1), .val (.int (2 : Int32)), .val (.int (4 : Int32)), .val (.int (3 : Int32)), .val (.int x3)] []) _
  refine own_st (fun t_ k_ => XS.aloadN X0.here hx rfl (hb hby d2_7) rfl rfl k_) ?_
  show own_Go p e below s₁ (mkF m 8 #[.val (.ref a1), .val (.int (2 : Int32)), .val (.int (4 : Int32)), .val (.int (3 : Int32)), .val (.int x3)] [(.ref a1)]) _
  refine own_st (fun t_ k_ => XS.iloadN X0.here hx rfl (hb hby d2_8) rfl k_) ?_
  show own_Go p e below s₁ (mkF m 9 #[.val (.ref a1), .val (.int (2 : Int32)), .val (.int (4 : Int32)), .val (.int (3 : Int32)), .val (.int x3)] [(.int (2 : Int32)), (.ref a1)]) _
  obtain ⟨cl1, Ar1, q1, Sz1, Nn1, Hh1, Gg1⟩ := id pV_a1
  have hin1 : ¬ ((2 : Int32) < 0 ∨ cl1.slots.size ≤ ((2 : Int32)).toNatClampNeg) := inb_of Sz1 ⟨by decide, by decide⟩
  have hat1 : cl1.slots[((2 : Int32)).toNatClampNeg]? = some (.int x2) := Has.at Hh1 hin1 rfl
  refine own_st (fun t_ k_ => X0.iaload hx (j := (2 : Int32)) (v := (.int x2)) (by rw [e0]; exact Ar1.1) (State.isArrayOf_alike hZ.alike Ar1.2.1) Ar1.2.2 hin1 hat1 (g := (mkF m 9 #[.val (.ref a1), .val (.int (2 : Int32)), .val (.int (4 : Int32)), .val (.int (3 : Int32)), .val (.int x3)] [(.int (2 : Int32)), (.ref a1)])) rfl rfl (hb hby d2_9) _ k_) ?_
  show own_Go p e below s₁ (mkF m 10 #[.val (.ref a1), .val (.int (2 : Int32)), .val (.int (4 : Int32)), .val (.int (3 : Int32)), .val (.int x3)] [(.int x2)]) _
  refine own_st (fun t_ k_ => XS.iload X0.here hx rfl (hb hby d2_10) rfl k_) ?_
  show own_Go p e below s₁ (mkF m 12 #[.val (.ref a1), .val (.int (2 : Int32)), .val (.int (4 : Int32)), .val (.int (3 : Int32)), .val (.int x3)] [(.int x3), (.int x2)]) _
  refine own_st (fun t_ k_ => XS.icmpYes X0.here hx rfl (pc0 := 12) (pc' := 17) rfl (hb hby d2_12) rfl (flt hn).2.2.2 (by decide) (by decide) k_) ?_
  show own_Go p e below s₁ (mkF m 17 #[.val (.ref a1), .val (.int (2 : Int32)), .val (.int (4 : Int32)), .val (.int (3 : Int32)), .val (.int x3)] []) _
  refine own_st (fun t_ k_ => XS.iloadN X0.here hx rfl (hb hby d2_17) rfl k_) ?_
  show own_Go p e below s₁ (mkF m 18 #[.val (.ref a1), .val (.int (2 : Int32)), .val (.int (4 : Int32)), .val (.int (3 : Int32)), .val (.int x3)] [(.int (2 : Int32))]) _
  refine own_st (fun t_ k_ => XS.iloadN X0.here hx rfl (hb hby d2_18) rfl k_) ?_
  show own_Go p e below s₁ (mkF m 19 #[.val (.ref a1), .val (.int (2 : Int32)), .val (.int (4 : Int32)), .val (.int (3 : Int32)), .val (.int x3)] [(.int (3 : Int32)), (.int (2 : Int32))]) _
  refine own_st (fun t_ k_ => XS.icmpNo X0.here hx rfl (hb hby d2_19) rfl (by decide) k_) ?_
  show own_Go p e below s₁ (mkF m 22 #[.val (.ref a1), .val (.int (2 : Int32)), .val (.int (4 : Int32)), .val (.int (3 : Int32)), .val (.int x3)] []) _
  refine own_st (fun t_ k_ => XS.aloadN X0.here hx rfl (hb hby d2_22) rfl rfl k_) ?_
  show own_Go p e below s₁ (mkF m 23 #[.val (.ref a1), .val (.int (2 : Int32)), .val (.int (4 : Int32)), .val (.int (3 : Int32)), .val (.int x3)] [(.ref a1)]) _
  refine own_st (fun t_ k_ => XS.iloadN X0.here hx rfl (hb hby d2_23) rfl k_) ?_
  show own_Go p e below s₁ (mkF m 24 #[.val (.ref a1), .val (.int (2 : Int32)), .val (.int (4 : Int32)), .val (.int (3 : Int32)), .val (.int x3)] [(.int (2 : Int32)), (.ref a1)]) _
  obtain ⟨cl2, Ar2, q2, Sz2, Nn2, Hh2, Gg2⟩ := id pV_a1
  have hin2 : ¬ ((2 : Int32) < 0 ∨ cl2.slots.size ≤ ((2 : Int32)).toNatClampNeg) := inb_of Sz2 ⟨by decide, by decide⟩
  have hat2 : cl2.slots[((2 : Int32)).toNatClampNeg]? = some (.int x2) := Has.at Hh2 hin2 rfl
  refine own_st (fun t_ k_ => X0.iaload hx (j := (2 : Int32)) (v := (.int x2)) (by rw [e0]; exact Ar2.1) (State.isArrayOf_alike hZ.alike Ar2.2.1) Ar2.2.2 hin2 hat2 (g := (mkF m 24 #[.val (.ref a1), .val (.int (2 : Int32)), .val (.int (4 : Int32)), .val (.int (3 : Int32)), .val (.int x3)] [(.int (2 : Int32)), (.ref a1)])) rfl rfl (hb hby d2_24) _ k_) ?_
  show own_Go p e below s₁ (mkF m 25 #[.val (.ref a1), .val (.int (2 : Int32)), .val (.int (4 : Int32)), .val (.int (3 : Int32)), .val (.int x3)] [(.int x2)]) _
  refine own_st (fun t_ k_ => XS.iload X0.here hx rfl (hb hby d2_25) rfl k_) ?_
  show own_Go p e below s₁ (mkF m 27 #[.val (.ref a1), .val (.int (2 : Int32)), .val (.int (4 : Int32)), .val (.int (3 : Int32)), .val (.int x3)] [(.int x3), (.int x2)]) _
  refine own_st (fun t_ k_ => XS.icmpYes X0.here hx rfl (pc0 := 27) (pc' := 32) rfl (hb hby d2_27) rfl (feq hd).2 (by decide) (by decide) k_) ?_
  show own_Go p e below s₁ (mkF m 32 #[.val (.ref a1), .val (.int (2 : Int32)), .val (.int (4 : Int32)), .val (.int (3 : Int32)), .val (.int x3)] []) _
  refine own_st (fun t_ k_ => XS.iconst X0.here hx rfl (hb hby d2_32) k_) ?_
  show own_Go p e below s₁ (mkF m 33 #[.val (.ref a1), .val (.int (2 : Int32)), .val (.int (4 : Int32)), .val (.int (3 : Int32)), .val (.int x3)] [(.int (1 : Int32))]) _
  obtain ⟨fs, hr, hrun, hended, hW, hsame⟩ := X0.leave (v := some (.int (1 : Int32))) (fun h => by rw [Bd.returns] at h; cases h)
  refine own_fin (retN X0 hx (t := .boolean) Bd.returns (by simp) (hb hby d2_33) hr) ⟨hrun, hended, _, _, rfl, ?_, ⟨_, rfl⟩, hW, hsame.mono (by decide) (by decide)⟩
  show Q_rmOk_2_4_3 Z a1 ki x0 x1 x2 x3 h0 n0 _ s₁.heap _
  rw [e0]
  exact ⟨rfl, N0, rfl⟩
theorem ef_rmOk_3_4_3 (m : MethodId) (x0 : Addr) (x1 : Int32) (x2 : Int32) (x3 : Int32) (x4 : Int32) : entryFrame m #[(.ref x0), (.int x1), (.int x2), (.int x3), (.int x4)] 5 = mkF m 0 #[.val (.ref x0), .val (.int x1), .val (.int x2), .val (.int x3), .val (.int x4)] [] := by first | (simp [entryFrame, mkF, argsToLocals, Value.category]; done) | rfl
def Q_rmOk_3_4_3 (Z : State) (a1 : Addr) (ki : ClassId) (x0 : Int32) (x1 : Int32) (x2 : Int32) (x3 : Int32) (h0 : Heap) (n0 : Nat) (v : Option Value) (h : Heap) (L : List Loc) : Prop := v = some (.int (1 : Int32)) ∧ Fr n0 L ∧ h = h0
set_option maxRecDepth 65536 in
set_option maxHeartbeats 40000000 in
theorem rmOk_3_4_3 (l : Launch) (Z : State) (a0 : Array Value) (hw : ∀ d ∈ tables_1, d.before a0 Z = true) (ws : List Jvm.Cond) (a1 : Addr) (ki : ClassId) (x0 : Int32) (x1 : Int32) (x2 : Int32) (x3 : Int32) (h0 : Heap) (n0 : Nat) (Z0 : n0 ≤ h0.size) (pV_a1 : Arv Z h0 a1 ki .int (4 : Int32) [(.int x0), (.int x1), (.int x2), (.int x3)] (.int (0 : Int32))) :
    MetFree l (⟨"com/example/spillback/spillback/behaviour/PlanSelectorHighestPinLaw", "ok", "([IIIII)Z"⟩ : MethodName) (head1 (Jvm.Cond.code (⟨"com/example/spillback/spillback/behaviour/PlanSelectorHighestPinLaw", "ok", "([IIIII)Z"⟩ : MethodName) method_3_code 5 (some .boolean) :: ws) ({ frames := 0, cells := 0, slots := 0, locals := 0 } : Room)) (fun a U => a = #[(.ref a1), (.int (3 : Int32)), (.int (4 : Int32)), (.int (3 : Int32)), (.int x3)] ∧ Z.Warmed39 U.vm ∧ U.heap = h0) (fun _ _ _ _ _ => True) (fun _ U o U' => ∃ v L, o = .returned v ∧ Q_rmOk_3_4_3 Z a1 ki x0 x1 x2 x3 h0 n0 v U'.heap L ∧ FrameEnd U o U' L ({ frames := 0, cells := 0, slots := 0, locals := 0 } : Room).cells ({ frames := 0, cells := 0, slots := 0, locals := 0 } : Room).slots) := by
  refine MetFree.of_bodySF (plainFor_of_name pn_2) hisR ?_
  intro p e s m args below meth c s₁ Bd hml0 hP hK
  obtain ⟨rfl, hZ, hh⟩ := hP
  have hx := Bd.exec
  have hby := Bd.bytes
  have hml : c.maxLocals = 5 := hml0
  have hown : s.vm.findClass "com/example/spillback/spillback/behaviour/PlanSelectorHighestPinLaw" = some m.cls := findClass_of_methodNamed Bd.named
  have hnm := (name_of_methodNamed Bd.named Bd.method).1
  have X0 : Stand p l e ({ frames := 0, cells := 0, slots := 0, locals := 0 } : Room) s m #[(.ref a1), (.int (3 : Int32)), (.int (4 : Int32)), (.int (3 : Int32)), (.int x3)] below meth c s₁ [] 0 0 := Stand.of_body Bd
  have e0 : s₁.heap = h0 := by rw [← hh, Bd.state]; rfl
  have N0 := Fr.nil n0
  refine own_enter (ef_rmOk_3_4_3 m a1 ((3 : Int32)) ((4 : Int32)) ((3 : Int32)) x3) ?_
  have hn : ¬ (x3 < x3) := by rw [Int32.lt_iff_toInt_lt]; omega
  refine own_st (fun t_ k_ => XS.iloadN X0.here hx rfl (hb hby d2_0) rfl k_) ?_
  show own_Go p e below s₁ (mkF m 1 #[.val (.ref a1), .val (.int (3 : Int32)), .val (.int (4 : Int32)), .val (.int (3 : Int32)), .val (.int x3)] [(.int (3 : Int32))]) _
  refine own_st (fun t_ k_ => XS.iloadN X0.here hx rfl (hb hby d2_1) rfl k_) ?_
  show own_Go p e below s₁ (mkF m 2 #[.val (.ref a1), .val (.int (3 : Int32)), .val (.int (4 : Int32)), .val (.int (3 : Int32)), .val (.int x3)] [(.int (4 : Int32)), (.int (3 : Int32))]) _
  refine own_st (fun t_ k_ => XS.icmpYes X0.here hx rfl (pc0 := 2) (pc' := 7) rfl (hb hby d2_2) rfl (by decide) (by decide) (by decide) k_) ?_
  show own_Go p e below s₁ (mkF m 7 #[.val (.ref a1), .val (.int (3 : Int32)), .val (.int (4 : Int32)), .val (.int (3 : Int32)), .val (.int x3)] []) _
  refine own_st (fun t_ k_ => XS.aloadN X0.here hx rfl (hb hby d2_7) rfl rfl k_) ?_
  show own_Go p e below s₁ (mkF m 8 #[.val (.ref a1), .val (.int (3 : Int32)), .val (.int (4 : Int32)), .val (.int (3 : Int32)), .val (.int x3)] [(.ref a1)]) _
  refine own_st (fun t_ k_ => XS.iloadN X0.here hx rfl (hb hby d2_8) rfl k_) ?_
  show own_Go p e below s₁ (mkF m 9 #[.val (.ref a1), .val (.int (3 : Int32)), .val (.int (4 : Int32)), .val (.int (3 : Int32)), .val (.int x3)] [(.int (3 : Int32)), (.ref a1)]) _
  obtain ⟨cl1, Ar1, q1, Sz1, Nn1, Hh1, Gg1⟩ := id pV_a1
  have hin1 : ¬ ((3 : Int32) < 0 ∨ cl1.slots.size ≤ ((3 : Int32)).toNatClampNeg) := inb_of Sz1 ⟨by decide, by decide⟩
  have hat1 : cl1.slots[((3 : Int32)).toNatClampNeg]? = some (.int x3) := Has.at Hh1 hin1 rfl
  refine own_st (fun t_ k_ => X0.iaload hx (j := (3 : Int32)) (v := (.int x3)) (by rw [e0]; exact Ar1.1) (State.isArrayOf_alike hZ.alike Ar1.2.1) Ar1.2.2 hin1 hat1 (g := (mkF m 9 #[.val (.ref a1), .val (.int (3 : Int32)), .val (.int (4 : Int32)), .val (.int (3 : Int32)), .val (.int x3)] [(.int (3 : Int32)), (.ref a1)])) rfl rfl (hb hby d2_9) _ k_) ?_
  show own_Go p e below s₁ (mkF m 10 #[.val (.ref a1), .val (.int (3 : Int32)), .val (.int (4 : Int32)), .val (.int (3 : Int32)), .val (.int x3)] [(.int x3)]) _
  refine own_st (fun t_ k_ => XS.iload X0.here hx rfl (hb hby d2_10) rfl k_) ?_
  show own_Go p e below s₁ (mkF m 12 #[.val (.ref a1), .val (.int (3 : Int32)), .val (.int (4 : Int32)), .val (.int (3 : Int32)), .val (.int x3)] [(.int x3), (.int x3)]) _
  refine own_st (fun t_ k_ => XS.icmpYes X0.here hx rfl (pc0 := 12) (pc' := 17) rfl (hb hby d2_12) rfl (flt hn).2.2.2 (by decide) (by decide) k_) ?_
  show own_Go p e below s₁ (mkF m 17 #[.val (.ref a1), .val (.int (3 : Int32)), .val (.int (4 : Int32)), .val (.int (3 : Int32)), .val (.int x3)] []) _
  refine own_st (fun t_ k_ => XS.iloadN X0.here hx rfl (hb hby d2_17) rfl k_) ?_
  show own_Go p e below s₁ (mkF m 18 #[.val (.ref a1), .val (.int (3 : Int32)), .val (.int (4 : Int32)), .val (.int (3 : Int32)), .val (.int x3)] [(.int (3 : Int32))]) _
  refine own_st (fun t_ k_ => XS.iloadN X0.here hx rfl (hb hby d2_18) rfl k_) ?_
  show own_Go p e below s₁ (mkF m 19 #[.val (.ref a1), .val (.int (3 : Int32)), .val (.int (4 : Int32)), .val (.int (3 : Int32)), .val (.int x3)] [(.int (3 : Int32)), (.int (3 : Int32))]) _
  refine own_st (fun t_ k_ => XS.icmpYes X0.here hx rfl (pc0 := 19) (pc' := 32) rfl (hb hby d2_19) rfl (by decide) (by decide) (by decide) k_) ?_
  show own_Go p e below s₁ (mkF m 32 #[.val (.ref a1), .val (.int (3 : Int32)), .val (.int (4 : Int32)), .val (.int (3 : Int32)), .val (.int x3)] []) _
  refine own_st (fun t_ k_ => XS.iconst X0.here hx rfl (hb hby d2_32) k_) ?_
  show own_Go p e below s₁ (mkF m 33 #[.val (.ref a1), .val (.int (3 : Int32)), .val (.int (4 : Int32)), .val (.int (3 : Int32)), .val (.int x3)] [(.int (1 : Int32))]) _
  obtain ⟨fs, hr, hrun, hended, hW, hsame⟩ := X0.leave (v := some (.int (1 : Int32))) (fun h => by rw [Bd.returns] at h; cases h)
  refine own_fin (retN X0 hx (t := .boolean) Bd.returns (by simp) (hb hby d2_33) hr) ⟨hrun, hended, _, _, rfl, ?_, ⟨_, rfl⟩, hW, hsame.mono (by decide) (by decide)⟩
  show Q_rmOk_3_4_3 Z a1 ki x0 x1 x2 x3 h0 n0 _ s₁.heap _
  rw [e0]
  exact ⟨rfl, N0, rfl⟩
theorem ef_rmLaw4 (m : MethodId) (x0 : Int32) (x1 : Int32) (x2 : Int32) (x3 : Int32) (x4 : Int32) : entryFrame m #[(.int x0), (.int x1), (.int x2), (.int x3), (.int x4)] maxLocals = mkF m 0 #[.val (.int x0), .val (.int x1), .val (.int x2), .val (.int x3), .val (.int x4), .unset, .unset, .unset, .unset, .unset] [] := by first | (simp [entryFrame, mkF, argsToLocals, Value.category, maxLocals]; done) | rfl
def Q_rmLaw4 (Z : State) (p0 : Int32) (x0 : Int32) (x1 : Int32) (x2 : Int32) (x3 : Int32) (h0 : Heap) (n0 : Nat) (v : Option Value) (h : Heap) (L : List Loc) : Prop := v = some (.int (1 : Int32)) ∧ Fr n0 L ∧ Keep h0 h []
set_option maxRecDepth 65536 in
set_option maxHeartbeats 40000000 in
theorem rmLaw4 (l : Launch) (Z : State) (a0 : Array Value) (hw : ∀ d ∈ tables_1, d.before a0 Z = true) (ws : List Jvm.Cond) (p0 : Int32) (x0 : Int32) (x1 : Int32) (x2 : Int32) (x3 : Int32) (h0 : Heap) (n0 : Nat) (Z0 : n0 ≤ h0.size) (hn : (p0 &&& (3 : Int32) = (3 : Int32))) :
    MetFree l x (head1 (Jvm.Cond.code x code maxLocals ret :: ws) room_1) (fun a U => a = #[(.int p0), (.int x0), (.int x1), (.int x2), (.int x3)] ∧ Z.Warmed39 U.vm ∧ U.heap = h0) (fun _ _ _ _ _ => True) (fun _ U o U' => ∃ v L, o = .returned v ∧ Q_rmLaw4 Z p0 x0 x1 x2 x3 h0 n0 v U'.heap L ∧ FrameEnd U o U' L 16 128) := by
  refine MetFree.of_bodySF (plainFor_of_name pn_0) hisR ?_
  intro p e s m args below meth c s₁ Bd hml0 hP hK
  obtain ⟨rfl, hZ, hh⟩ := hP
  have hx := Bd.exec
  have hby := Bd.bytes
  have hml : c.maxLocals = 10 := hml0
  have hown : s.vm.findClass "com/example/spillback/spillback/behaviour/PlanSelectorHighestPinLaw" = some m.cls := findClass_of_methodNamed Bd.named
  have hnm := (name_of_methodNamed Bd.named Bd.method).1
  have X0 : Stand p l e room_1 s m #[(.int p0), (.int x0), (.int x1), (.int x2), (.int x3)] below meth c s₁ [] 0 0 := Stand.of_body Bd
  have e0 : s₁.heap = h0 := by rw [← hh, Bd.state]; rfl
  have N0 := Fr.nil n0
  refine own_enter (ef_rmLaw4 m p0 x0 x1 x2 x3) ?_
  refine own_st (fun t_ k_ => XS.iloadN X0.here hx rfl (hb hby at_0) rfl k_) ?_
  show own_Go p e below s₁ (mkF m 1 #[.val (.int p0), .val (.int x0), .val (.int x1), .val (.int x2), .val (.int x3), .unset, .unset, .unset, .unset, .unset] [(.int p0)]) _
  refine own_st (fun t_ k_ => XS.iconst X0.here hx rfl (hb hby at_1) k_) ?_
  show own_Go p e below s₁ (mkF m 2 #[.val (.int p0), .val (.int x0), .val (.int x1), .val (.int x2), .val (.int x3), .unset, .unset, .unset, .unset, .unset] [(.int (3 : Int32)), (.int p0)]) _
  refine own_st (fun t_ k_ => XS.iand X0.here hx rfl (hb hby at_2) rfl k_) ?_
  show own_Go p e below s₁ (mkF m 3 #[.val (.int p0), .val (.int x0), .val (.int x1), .val (.int x2), .val (.int x3), .unset, .unset, .unset, .unset, .unset] [(.int (p0 &&& (3 : Int32)))]) _
  rw [hn]
  show own_Go p e below s₁ (mkF m 3 #[.val (.int p0), .val (.int x0), .val (.int x1), .val (.int x2), .val (.int x3), .unset, .unset, .unset, .unset, .unset] [(.int (3 : Int32))]) _
  refine own_st (fun t_ k_ => XS.iconst X0.here hx rfl (hb hby at_3) k_) ?_
  show own_Go p e below s₁ (mkF m 4 #[.val (.int p0), .val (.int x0), .val (.int x1), .val (.int x2), .val (.int x3), .unset, .unset, .unset, .unset, .unset] [(.int (1 : Int32)), (.int (3 : Int32))]) _
  refine own_st (fun t_ k_ => XS.iadd X0.here hx rfl (hb hby at_4) rfl k_) ?_
  show own_Go p e below s₁ (mkF m 5 #[.val (.int p0), .val (.int x0), .val (.int x1), .val (.int x2), .val (.int x3), .unset, .unset, .unset, .unset, .unset] [(.int (4 : Int32))]) _
  refine own_st (fun t_ k_ => XS.istore X0.here hx rfl (hb hby at_5) rfl (l' := #[.val (.int p0), .val (.int x0), .val (.int x1), .val (.int x2), .val (.int x3), .val (.int (4 : Int32)), .unset, .unset, .unset, .unset]) rfl k_) ?_
  show own_Go p e below s₁ (mkF m 7 #[.val (.int p0), .val (.int x0), .val (.int x1), .val (.int x2), .val (.int x3), .val (.int (4 : Int32)), .unset, .unset, .unset, .unset] []) _
  refine own_st (fun t_ k_ => XS.iconst X0.here hx rfl (hb hby at_7) k_) ?_
  show own_Go p e below s₁ (mkF m 8 #[.val (.int p0), .val (.int x0), .val (.int x1), .val (.int x2), .val (.int x3), .val (.int (4 : Int32)), .unset, .unset, .unset, .unset] [(.int (4 : Int32))]) _
  obtain ⟨T1, h1, k1, X1, e1, E1, A1, st1⟩ := newP X0 hx hZ (hw _ (List.mem_of_getElem? (i := 0) rfl)) e0 (g := (mkF m 8 #[.val (.int p0), .val (.int x0), .val (.int x1), .val (.int x2), .val (.int x3), .val (.int (4 : Int32)), .unset, .unset, .unset, .unset] [(.int (4 : Int32))])) rfl (hb hby at_8) rfl (by decide) (cap := 4) (by decide) (by decide) (by decide) (by decide)
  obtain ⟨b1, g1⟩ : ∃ z, z = h0.size := ⟨_, rfl⟩
  rw [← g1] at A1 st1
  have G1 : n0 ≤ b1 := Nat.le_trans Z0 (Nat.le_of_eq g1.symm)
  have B1 : h0.size ≤ b1 := Nat.le_trans (Keep.refl h0 []).1 (Nat.le_of_eq g1.symm)
  have K2 : Keep h0 h1 [] := (Keep.refl h0 []).ext E1
  have V1 : Arv Z h1 b1 k1 .int (4 : Int32) [(.int (0 : Int32)), (.int (0 : Int32)), (.int (0 : Int32)), (.int (0 : Int32))] (.int (0 : Int32)) := (Arv.new A1 (by decide)).pad (pad_rep [] (.int (0 : Int32)) 4)
  refine own_st st1 ?_
  show own_Go p e below T1 (mkF m 10 #[.val (.int p0), .val (.int x0), .val (.int x1), .val (.int x2), .val (.int x3), .val (.int (4 : Int32)), .unset, .unset, .unset, .unset] [(.ref b1)]) _
  refine own_st (fun t_ k_ => XS.astore X1.here hx rfl (hb hby at_10) rfl rfl (l' := #[.val (.int p0), .val (.int x0), .val (.int x1), .val (.int x2), .val (.int x3), .val (.int (4 : Int32)), .val (.ref b1), .unset, .unset, .unset]) rfl k_) ?_
  show own_Go p e below T1 (mkF m 12 #[.val (.int p0), .val (.int x0), .val (.int x1), .val (.int x2), .val (.int x3), .val (.int (4 : Int32)), .val (.ref b1), .unset, .unset, .unset] []) _
  refine own_st (fun t_ k_ => XS.aload X1.here hx rfl (hb hby at_12) rfl rfl k_) ?_
  show own_Go p e below T1 (mkF m 14 #[.val (.int p0), .val (.int x0), .val (.int x1), .val (.int x2), .val (.int x3), .val (.int (4 : Int32)), .val (.ref b1), .unset, .unset, .unset] [(.ref b1)]) _
  refine own_st (fun t_ k_ => XS.iconst X1.here hx rfl (hb hby at_14) k_) ?_
  show own_Go p e below T1 (mkF m 15 #[.val (.int p0), .val (.int x0), .val (.int x1), .val (.int x2), .val (.int x3), .val (.int (4 : Int32)), .val (.ref b1), .unset, .unset, .unset] [(.int (0 : Int32)), (.ref b1)]) _
  refine own_st (fun t_ k_ => XS.iloadN X1.here hx rfl (hb hby at_15) rfl k_) ?_
  show own_Go p e below T1 (mkF m 16 #[.val (.int p0), .val (.int x0), .val (.int x1), .val (.int x2), .val (.int x3), .val (.int (4 : Int32)), .val (.ref b1), .unset, .unset, .unset] [(.int x0), (.int (0 : Int32)), (.ref b1)]) _
  obtain ⟨cl3, Ar3, q3, Sz3, Nn3, Hh3, Gg3⟩ := id V1
  have hin3 : ¬ ((0 : Int32) < 0 ∨ cl3.slots.size ≤ ((0 : Int32)).toNatClampNeg) := inb_of Sz3 ⟨by decide, by decide⟩
  obtain ⟨T4, h4, X4, e4, W4, st4⟩ := stI X1 hx hZ e1 Ar3 (j := (0 : Int32)) hin3 (g := (mkF m 16 #[.val (.int p0), .val (.int x0), .val (.int x1), .val (.int x2), .val (.int x3), .val (.int (4 : Int32)), .val (.ref b1), .unset, .unset, .unset] [(.int x0), (.int (0 : Int32)), (.ref b1)])) rfl rfl (hb hby at_16)
  have V4 : Arv Z h4 b1 k1 .int (4 : Int32) [(.int x0), (.int (0 : Int32)), (.int (0 : Int32)), (.int (0 : Int32))] (.int (0 : Int32)) := Arv.set Ar3 q3 Sz3 Nn3 Hh3 Gg3 rfl W4 0 rfl (Nat.le_of_ble_eq_true rfl)
  have K5 : Keep h0 h4 [] := K2.wr W4 (Or.inr B1)
  have N4 := Fr.snoc X4 N0 G1
  refine own_st st4 ?_
  show own_Go p e below T4 (mkF m 17 #[.val (.int p0), .val (.int x0), .val (.int x1), .val (.int x2), .val (.int x3), .val (.int (4 : Int32)), .val (.ref b1), .unset, .unset, .unset] []) _
  refine own_st (fun t_ k_ => XS.aload X4.here hx rfl (hb hby at_17) rfl rfl k_) ?_
  show own_Go p e below T4 (mkF m 19 #[.val (.int p0), .val (.int x0), .val (.int x1), .val (.int x2), .val (.int x3), .val (.int (4 : Int32)), .val (.ref b1), .unset, .unset, .unset] [(.ref b1)]) _
  refine own_st (fun t_ k_ => XS.iconst X4.here hx rfl (hb hby at_19) k_) ?_
  show own_Go p e below T4 (mkF m 20 #[.val (.int p0), .val (.int x0), .val (.int x1), .val (.int x2), .val (.int x3), .val (.int (4 : Int32)), .val (.ref b1), .unset, .unset, .unset] [(.int (1 : Int32)), (.ref b1)]) _
  refine own_st (fun t_ k_ => XS.iloadN X4.here hx rfl (hb hby at_20) rfl k_) ?_
  show own_Go p e below T4 (mkF m 21 #[.val (.int p0), .val (.int x0), .val (.int x1), .val (.int x2), .val (.int x3), .val (.int (4 : Int32)), .val (.ref b1), .unset, .unset, .unset] [(.int x1), (.int (1 : Int32)), (.ref b1)]) _
  obtain ⟨cl6, Ar6, q6, Sz6, Nn6, Hh6, Gg6⟩ := id V4
  have hin6 : ¬ ((1 : Int32) < 0 ∨ cl6.slots.size ≤ ((1 : Int32)).toNatClampNeg) := inb_of Sz6 ⟨by decide, by decide⟩
  obtain ⟨T7, h7, X7, e7, W7, st7⟩ := stI X4 hx hZ e4 Ar6 (j := (1 : Int32)) hin6 (g := (mkF m 21 #[.val (.int p0), .val (.int x0), .val (.int x1), .val (.int x2), .val (.int x3), .val (.int (4 : Int32)), .val (.ref b1), .unset, .unset, .unset] [(.int x1), (.int (1 : Int32)), (.ref b1)])) rfl rfl (hb hby at_21)
  have V7 : Arv Z h7 b1 k1 .int (4 : Int32) [(.int x0), (.int x1), (.int (0 : Int32)), (.int (0 : Int32))] (.int (0 : Int32)) := Arv.set Ar6 q6 Sz6 Nn6 Hh6 Gg6 rfl W7 1 rfl (Nat.le_of_ble_eq_true rfl)
  have K8 : Keep h0 h7 [] := K5.wr W7 (Or.inr B1)
  have N7 := Fr.snoc X7 N4 G1
  refine own_st st7 ?_
  show own_Go p e below T7 (mkF m 22 #[.val (.int p0), .val (.int x0), .val (.int x1), .val (.int x2), .val (.int x3), .val (.int (4 : Int32)), .val (.ref b1), .unset, .unset, .unset] []) _
  refine own_st (fun t_ k_ => XS.aload X7.here hx rfl (hb hby at_22) rfl rfl k_) ?_
  show own_Go p e below T7 (mkF m 24 #[.val (.int p0), .val (.int x0), .val (.int x1), .val (.int x2), .val (.int x3), .val (.int (4 : Int32)), .val (.ref b1), .unset, .unset, .unset] [(.ref b1)]) _
  refine own_st (fun t_ k_ => XS.iconst X7.here hx rfl (hb hby at_24) k_) ?_
  show own_Go p e below T7 (mkF m 25 #[.val (.int p0), .val (.int x0), .val (.int x1), .val (.int x2), .val (.int x3), .val (.int (4 : Int32)), .val (.ref b1), .unset, .unset, .unset] [(.int (2 : Int32)), (.ref b1)]) _
  refine own_st (fun t_ k_ => XS.iloadN X7.here hx rfl (hb hby at_25) rfl k_) ?_
  show own_Go p e below T7 (mkF m 26 #[.val (.int p0), .val (.int x0), .val (.int x1), .val (.int x2), .val (.int x3), .val (.int (4 : Int32)), .val (.ref b1), .unset, .unset, .unset] [(.int x2), (.int (2 : Int32)), (.ref b1)]) _
  obtain ⟨cl9, Ar9, q9, Sz9, Nn9, Hh9, Gg9⟩ := id V7
  have hin9 : ¬ ((2 : Int32) < 0 ∨ cl9.slots.size ≤ ((2 : Int32)).toNatClampNeg) := inb_of Sz9 ⟨by decide, by decide⟩
  obtain ⟨T10, h10, X10, e10, W10, st10⟩ := stI X7 hx hZ e7 Ar9 (j := (2 : Int32)) hin9 (g := (mkF m 26 #[.val (.int p0), .val (.int x0), .val (.int x1), .val (.int x2), .val (.int x3), .val (.int (4 : Int32)), .val (.ref b1), .unset, .unset, .unset] [(.int x2), (.int (2 : Int32)), (.ref b1)])) rfl rfl (hb hby at_26)
  have V10 : Arv Z h10 b1 k1 .int (4 : Int32) [(.int x0), (.int x1), (.int x2), (.int (0 : Int32))] (.int (0 : Int32)) := Arv.set Ar9 q9 Sz9 Nn9 Hh9 Gg9 rfl W10 2 rfl (Nat.le_of_ble_eq_true rfl)
  have K11 : Keep h0 h10 [] := K8.wr W10 (Or.inr B1)
  have N10 := Fr.snoc X10 N7 G1
  refine own_st st10 ?_
  show own_Go p e below T10 (mkF m 27 #[.val (.int p0), .val (.int x0), .val (.int x1), .val (.int x2), .val (.int x3), .val (.int (4 : Int32)), .val (.ref b1), .unset, .unset, .unset] []) _
  refine own_st (fun t_ k_ => XS.aload X10.here hx rfl (hb hby at_27) rfl rfl k_) ?_
  show own_Go p e below T10 (mkF m 29 #[.val (.int p0), .val (.int x0), .val (.int x1), .val (.int x2), .val (.int x3), .val (.int (4 : Int32)), .val (.ref b1), .unset, .unset, .unset] [(.ref b1)]) _
  refine own_st (fun t_ k_ => XS.iconst X10.here hx rfl (hb hby at_29) k_) ?_
  show own_Go p e below T10 (mkF m 30 #[.val (.int p0), .val (.int x0), .val (.int x1), .val (.int x2), .val (.int x3), .val (.int (4 : Int32)), .val (.ref b1), .unset, .unset, .unset] [(.int (3 : Int32)), (.ref b1)]) _
  refine own_st (fun t_ k_ => XS.iload X10.here hx rfl (hb hby at_30) rfl k_) ?_
  show own_Go p e below T10 (mkF m 32 #[.val (.int p0), .val (.int x0), .val (.int x1), .val (.int x2), .val (.int x3), .val (.int (4 : Int32)), .val (.ref b1), .unset, .unset, .unset] [(.int x3), (.int (3 : Int32)), (.ref b1)]) _
  obtain ⟨cl12, Ar12, q12, Sz12, Nn12, Hh12, Gg12⟩ := id V10
  have hin12 : ¬ ((3 : Int32) < 0 ∨ cl12.slots.size ≤ ((3 : Int32)).toNatClampNeg) := inb_of Sz12 ⟨by decide, by decide⟩
  obtain ⟨T13, h13, X13, e13, W13, st13⟩ := stI X10 hx hZ e10 Ar12 (j := (3 : Int32)) hin12 (g := (mkF m 32 #[.val (.int p0), .val (.int x0), .val (.int x1), .val (.int x2), .val (.int x3), .val (.int (4 : Int32)), .val (.ref b1), .unset, .unset, .unset] [(.int x3), (.int (3 : Int32)), (.ref b1)])) rfl rfl (hb hby at_32)
  have V13 : Arv Z h13 b1 k1 .int (4 : Int32) [(.int x0), (.int x1), (.int x2), (.int x3)] (.int (0 : Int32)) := Arv.set Ar12 q12 Sz12 Nn12 Hh12 Gg12 rfl W13 3 rfl (Nat.le_of_ble_eq_true rfl)
  have K14 : Keep h0 h13 [] := K11.wr W13 (Or.inr B1)
  have N13 := Fr.snoc X13 N10 G1
  refine own_st st13 ?_
  show own_Go p e below T13 (mkF m 33 #[.val (.int p0), .val (.int x0), .val (.int x1), .val (.int x2), .val (.int x3), .val (.int (4 : Int32)), .val (.ref b1), .unset, .unset, .unset] []) _
  refine own_st (fun t_ k_ => XS.iload X13.here hx rfl (hb hby at_33) rfl k_) ?_
  show own_Go p e below T13 (mkF m 35 #[.val (.int p0), .val (.int x0), .val (.int x1), .val (.int x2), .val (.int x3), .val (.int (4 : Int32)), .val (.ref b1), .unset, .unset, .unset] [(.int (4 : Int32))]) _
  have f15 := (Nat.le_trans (Nat.le_trans (Nat.le_trans (Nat.le_trans (Nat.le_trans Z0 E1.1) (Keep.of_wr W4).1) (Keep.of_wr W7).1) (Keep.of_wr W10).1) (Keep.of_wr W13).1)
  obtain ⟨T16, h16, k16, X16, e16, E16, A16, st16⟩ := newP X13 hx hZ (hw _ (List.mem_of_getElem? (i := 1) rfl)) e13 (g := (mkF m 35 #[.val (.int p0), .val (.int x0), .val (.int x1), .val (.int x2), .val (.int x3), .val (.int (4 : Int32)), .val (.ref b1), .unset, .unset, .unset] [(.int (4 : Int32))])) rfl (hb hby at_35) rfl (by decide) (cap := 4) (by decide) (by decide) (by decide) (by decide)
  obtain ⟨b16, g16⟩ : ∃ z, z = h13.size := ⟨_, rfl⟩
  rw [← g16] at A16 st16
  have G16 : n0 ≤ b16 := Nat.le_trans f15 (Nat.le_of_eq g16.symm)
  have B16 : h0.size ≤ b16 := Nat.le_trans K14.1 (Nat.le_of_eq g16.symm)
  have K17 : Keep h0 h16 [] := K14.ext E16
  have V16 : Arv Z h16 b16 k16 .double (4 : Int32) [(.double (0 : UInt64)), (.double (0 : UInt64)), (.double (0 : UInt64)), (.double (0 : UInt64))] (.double (0 : UInt64)) := (Arv.new A16 (by decide)).pad (pad_rep [] (.double (0 : UInt64)) 4)
  refine own_st st16 ?_
  show own_Go p e below T16 (mkF m 37 #[.val (.int p0), .val (.int x0), .val (.int x1), .val (.int x2), .val (.int x3), .val (.int (4 : Int32)), .val (.ref b1), .unset, .unset, .unset] [(.ref b16)]) _
  refine own_st (fun t_ k_ => XS.astore X16.here hx rfl (hb hby at_37) rfl rfl (l' := #[.val (.int p0), .val (.int x0), .val (.int x1), .val (.int x2), .val (.int x3), .val (.int (4 : Int32)), .val (.ref b1), .val (.ref b16), .unset, .unset]) rfl k_) ?_
  show own_Go p e below T16 (mkF m 39 #[.val (.int p0), .val (.int x0), .val (.int x1), .val (.int x2), .val (.int x3), .val (.int (4 : Int32)), .val (.ref b1), .val (.ref b16), .unset, .unset] []) _
  refine own_st (fun t_ k_ => XS.aload X16.here hx rfl (hb hby at_39) rfl rfl k_) ?_
  show own_Go p e below T16 (mkF m 41 #[.val (.int p0), .val (.int x0), .val (.int x1), .val (.int x2), .val (.int x3), .val (.int (4 : Int32)), .val (.ref b1), .val (.ref b16), .unset, .unset] [(.ref b16)]) _
  refine own_st (fun t_ k_ => XS.iconst X16.here hx rfl (hb hby at_41) k_) ?_
  show own_Go p e below T16 (mkF m 42 #[.val (.int p0), .val (.int x0), .val (.int x1), .val (.int x2), .val (.int x3), .val (.int (4 : Int32)), .val (.ref b1), .val (.ref b16), .unset, .unset] [(.int (0 : Int32)), (.ref b16)]) _
  refine own_st (fun t_ k_ => XS.iloadN X16.here hx rfl (hb hby at_42) rfl k_) ?_
  show own_Go p e below T16 (mkF m 43 #[.val (.int p0), .val (.int x0), .val (.int x1), .val (.int x2), .val (.int x3), .val (.int (4 : Int32)), .val (.ref b1), .val (.ref b16), .unset, .unset] [(.int x0), (.int (0 : Int32)), (.ref b16)]) _
  refine own_st (fun t_ k_ => XS.i2dS X16.here hx rfl (hb hby at_43) rfl rfl k_) ?_
  show own_Go p e below T16 (mkF m 44 #[.val (.int p0), .val (.int x0), .val (.int x1), .val (.int x2), .val (.int x3), .val (.int (4 : Int32)), .val (.ref b1), .val (.ref b16), .unset, .unset] [(.double (FP.i2d x0)), (.int (0 : Int32)), (.ref b16)]) _
  obtain ⟨cl18, Ar18, q18, Sz18, Nn18, Hh18, Gg18⟩ := id V16
  have hin18 : ¬ ((0 : Int32) < 0 ∨ cl18.slots.size ≤ ((0 : Int32)).toNatClampNeg) := inb_of Sz18 ⟨by decide, by decide⟩
  obtain ⟨T19, h19, X19, e19, W19, st19⟩ := stD X16 hx hZ e16 Ar18 (j := (0 : Int32)) hin18 (g := (mkF m 44 #[.val (.int p0), .val (.int x0), .val (.int x1), .val (.int x2), .val (.int x3), .val (.int (4 : Int32)), .val (.ref b1), .val (.ref b16), .unset, .unset] [(.double (FP.i2d x0)), (.int (0 : Int32)), (.ref b16)])) rfl rfl (hb hby at_44)
  have V19 : Arv Z h19 b16 k16 .double (4 : Int32) [(.double (FP.i2d x0)), (.double (0 : UInt64)), (.double (0 : UInt64)), (.double (0 : UInt64))] (.double (0 : UInt64)) := Arv.set Ar18 q18 Sz18 Nn18 Hh18 Gg18 rfl W19 0 rfl (Nat.le_of_ble_eq_true rfl)
  have K20 : Keep h0 h19 [] := K17.wr W19 (Or.inr B16)
  have N19 := Fr.snoc X19 N13 G16
  refine own_st st19 ?_
  show own_Go p e below T19 (mkF m 45 #[.val (.int p0), .val (.int x0), .val (.int x1), .val (.int x2), .val (.int x3), .val (.int (4 : Int32)), .val (.ref b1), .val (.ref b16), .unset, .unset] []) _
  refine own_st (fun t_ k_ => XS.iload X19.here hx rfl (hb hby at_45) rfl k_) ?_
  show own_Go p e below T19 (mkF m 47 #[.val (.int p0), .val (.int x0), .val (.int x1), .val (.int x2), .val (.int x3), .val (.int (4 : Int32)), .val (.ref b1), .val (.ref b16), .unset, .unset] [(.int (4 : Int32))]) _
  refine own_st (fun t_ k_ => XS.iconst X19.here hx rfl (hb hby at_47) k_) ?_
  show own_Go p e below T19 (mkF m 48 #[.val (.int p0), .val (.int x0), .val (.int x1), .val (.int x2), .val (.int x3), .val (.int (4 : Int32)), .val (.ref b1), .val (.ref b16), .unset, .unset] [(.int (1 : Int32)), (.int (4 : Int32))]) _
  refine own_st (fun t_ k_ => XS.icmpNo X19.here hx rfl (hb hby at_48) rfl (by decide) k_) ?_
  show own_Go p e below T19 (mkF m 51 #[.val (.int p0), .val (.int x0), .val (.int x1), .val (.int x2), .val (.int x3), .val (.int (4 : Int32)), .val (.ref b1), .val (.ref b16), .unset, .unset] []) _
  refine own_st (fun t_ k_ => XS.aload X19.here hx rfl (hb hby at_51) rfl rfl k_) ?_
  show own_Go p e below T19 (mkF m 53 #[.val (.int p0), .val (.int x0), .val (.int x1), .val (.int x2), .val (.int x3), .val (.int (4 : Int32)), .val (.ref b1), .val (.ref b16), .unset, .unset] [(.ref b16)]) _
  refine own_st (fun t_ k_ => XS.iconst X19.here hx rfl (hb hby at_53) k_) ?_
  show own_Go p e below T19 (mkF m 54 #[.val (.int p0), .val (.int x0), .val (.int x1), .val (.int x2), .val (.int x3), .val (.int (4 : Int32)), .val (.ref b1), .val (.ref b16), .unset, .unset] [(.int (1 : Int32)), (.ref b16)]) _
  refine own_st (fun t_ k_ => XS.iloadN X19.here hx rfl (hb hby at_54) rfl k_) ?_
  show own_Go p e below T19 (mkF m 55 #[.val (.int p0), .val (.int x0), .val (.int x1), .val (.int x2), .val (.int x3), .val (.int (4 : Int32)), .val (.ref b1), .val (.ref b16), .unset, .unset] [(.int x1), (.int (1 : Int32)), (.ref b16)]) _
  refine own_st (fun t_ k_ => XS.i2dS X19.here hx rfl (hb hby at_55) rfl rfl k_) ?_
  show own_Go p e below T19 (mkF m 56 #[.val (.int p0), .val (.int x0), .val (.int x1), .val (.int x2), .val (.int x3), .val (.int (4 : Int32)), .val (.ref b1), .val (.ref b16), .unset, .unset] [(.double (FP.i2d x1)), (.int (1 : Int32)), (.ref b16)]) _
  obtain ⟨cl21, Ar21, q21, Sz21, Nn21, Hh21, Gg21⟩ := id V19
  have hin21 : ¬ ((1 : Int32) < 0 ∨ cl21.slots.size ≤ ((1 : Int32)).toNatClampNeg) := inb_of Sz21 ⟨by decide, by decide⟩
  obtain ⟨T22, h22, X22, e22, W22, st22⟩ := stD X19 hx hZ e19 Ar21 (j := (1 : Int32)) hin21 (g := (mkF m 56 #[.val (.int p0), .val (.int x0), .val (.int x1), .val (.int x2), .val (.int x3), .val (.int (4 : Int32)), .val (.ref b1), .val (.ref b16), .unset, .unset] [(.double (FP.i2d x1)), (.int (1 : Int32)), (.ref b16)])) rfl rfl (hb hby at_56)
  have V22 : Arv Z h22 b16 k16 .double (4 : Int32) [(.double (FP.i2d x0)), (.double (FP.i2d x1)), (.double (0 : UInt64)), (.double (0 : UInt64))] (.double (0 : UInt64)) := Arv.set Ar21 q21 Sz21 Nn21 Hh21 Gg21 rfl W22 1 rfl (Nat.le_of_ble_eq_true rfl)
  have K23 : Keep h0 h22 [] := K20.wr W22 (Or.inr B16)
  have N22 := Fr.snoc X22 N19 G16
  refine own_st st22 ?_
  show own_Go p e below T22 (mkF m 57 #[.val (.int p0), .val (.int x0), .val (.int x1), .val (.int x2), .val (.int x3), .val (.int (4 : Int32)), .val (.ref b1), .val (.ref b16), .unset, .unset] []) _
  refine own_st (fun t_ k_ => XS.iload X22.here hx rfl (hb hby at_57) rfl k_) ?_
  show own_Go p e below T22 (mkF m 59 #[.val (.int p0), .val (.int x0), .val (.int x1), .val (.int x2), .val (.int x3), .val (.int (4 : Int32)), .val (.ref b1), .val (.ref b16), .unset, .unset] [(.int (4 : Int32))]) _
  refine own_st (fun t_ k_ => XS.iconst X22.here hx rfl (hb hby at_59) k_) ?_
  show own_Go p e below T22 (mkF m 60 #[.val (.int p0), .val (.int x0), .val (.int x1), .val (.int x2), .val (.int x3), .val (.int (4 : Int32)), .val (.ref b1), .val (.ref b16), .unset, .unset] [(.int (2 : Int32)), (.int (4 : Int32))]) _
  refine own_st (fun t_ k_ => XS.icmpNo X22.here hx rfl (hb hby at_60) rfl (by decide) k_) ?_
  show own_Go p e below T22 (mkF m 63 #[.val (.int p0), .val (.int x0), .val (.int x1), .val (.int x2), .val (.int x3), .val (.int (4 : Int32)), .val (.ref b1), .val (.ref b16), .unset, .unset] []) _
  refine own_st (fun t_ k_ => XS.aload X22.here hx rfl (hb hby at_63) rfl rfl k_) ?_
  show own_Go p e below T22 (mkF m 65 #[.val (.int p0), .val (.int x0), .val (.int x1), .val (.int x2), .val (.int x3), .val (.int (4 : Int32)), .val (.ref b1), .val (.ref b16), .unset, .unset] [(.ref b16)]) _
  refine own_st (fun t_ k_ => XS.iconst X22.here hx rfl (hb hby at_65) k_) ?_
  show own_Go p e below T22 (mkF m 66 #[.val (.int p0), .val (.int x0), .val (.int x1), .val (.int x2), .val (.int x3), .val (.int (4 : Int32)), .val (.ref b1), .val (.ref b16), .unset, .unset] [(.int (2 : Int32)), (.ref b16)]) _
  refine own_st (fun t_ k_ => XS.iloadN X22.here hx rfl (hb hby at_66) rfl k_) ?_
  show own_Go p e below T22 (mkF m 67 #[.val (.int p0), .val (.int x0), .val (.int x1), .val (.int x2), .val (.int x3), .val (.int (4 : Int32)), .val (.ref b1), .val (.ref b16), .unset, .unset] [(.int x2), (.int (2 : Int32)), (.ref b16)]) _
  refine own_st (fun t_ k_ => XS.i2dS X22.here hx rfl (hb hby at_67) rfl rfl k_) ?_
  show own_Go p e below T22 (mkF m 68 #[.val (.int p0), .val (.int x0), .val (.int x1), .val (.int x2), .val (.int x3), .val (.int (4 : Int32)), .val (.ref b1), .val (.ref b16), .unset, .unset] [(.double (FP.i2d x2)), (.int (2 : Int32)), (.ref b16)]) _
  obtain ⟨cl24, Ar24, q24, Sz24, Nn24, Hh24, Gg24⟩ := id V22
  have hin24 : ¬ ((2 : Int32) < 0 ∨ cl24.slots.size ≤ ((2 : Int32)).toNatClampNeg) := inb_of Sz24 ⟨by decide, by decide⟩
  obtain ⟨T25, h25, X25, e25, W25, st25⟩ := stD X22 hx hZ e22 Ar24 (j := (2 : Int32)) hin24 (g := (mkF m 68 #[.val (.int p0), .val (.int x0), .val (.int x1), .val (.int x2), .val (.int x3), .val (.int (4 : Int32)), .val (.ref b1), .val (.ref b16), .unset, .unset] [(.double (FP.i2d x2)), (.int (2 : Int32)), (.ref b16)])) rfl rfl (hb hby at_68)
  have V25 : Arv Z h25 b16 k16 .double (4 : Int32) [(.double (FP.i2d x0)), (.double (FP.i2d x1)), (.double (FP.i2d x2)), (.double (0 : UInt64))] (.double (0 : UInt64)) := Arv.set Ar24 q24 Sz24 Nn24 Hh24 Gg24 rfl W25 2 rfl (Nat.le_of_ble_eq_true rfl)
  have K26 : Keep h0 h25 [] := K23.wr W25 (Or.inr B16)
  have N25 := Fr.snoc X25 N22 G16
  refine own_st st25 ?_
  show own_Go p e below T25 (mkF m 69 #[.val (.int p0), .val (.int x0), .val (.int x1), .val (.int x2), .val (.int x3), .val (.int (4 : Int32)), .val (.ref b1), .val (.ref b16), .unset, .unset] []) _
  refine own_st (fun t_ k_ => XS.iload X25.here hx rfl (hb hby at_69) rfl k_) ?_
  show own_Go p e below T25 (mkF m 71 #[.val (.int p0), .val (.int x0), .val (.int x1), .val (.int x2), .val (.int x3), .val (.int (4 : Int32)), .val (.ref b1), .val (.ref b16), .unset, .unset] [(.int (4 : Int32))]) _
  refine own_st (fun t_ k_ => XS.iconst X25.here hx rfl (hb hby at_71) k_) ?_
  show own_Go p e below T25 (mkF m 72 #[.val (.int p0), .val (.int x0), .val (.int x1), .val (.int x2), .val (.int x3), .val (.int (4 : Int32)), .val (.ref b1), .val (.ref b16), .unset, .unset] [(.int (3 : Int32)), (.int (4 : Int32))]) _
  refine own_st (fun t_ k_ => XS.icmpNo X25.here hx rfl (hb hby at_72) rfl (by decide) k_) ?_
  show own_Go p e below T25 (mkF m 75 #[.val (.int p0), .val (.int x0), .val (.int x1), .val (.int x2), .val (.int x3), .val (.int (4 : Int32)), .val (.ref b1), .val (.ref b16), .unset, .unset] []) _
  refine own_st (fun t_ k_ => XS.aload X25.here hx rfl (hb hby at_75) rfl rfl k_) ?_
  show own_Go p e below T25 (mkF m 77 #[.val (.int p0), .val (.int x0), .val (.int x1), .val (.int x2), .val (.int x3), .val (.int (4 : Int32)), .val (.ref b1), .val (.ref b16), .unset, .unset] [(.ref b16)]) _
  refine own_st (fun t_ k_ => XS.iconst X25.here hx rfl (hb hby at_77) k_) ?_
  show own_Go p e below T25 (mkF m 78 #[.val (.int p0), .val (.int x0), .val (.int x1), .val (.int x2), .val (.int x3), .val (.int (4 : Int32)), .val (.ref b1), .val (.ref b16), .unset, .unset] [(.int (3 : Int32)), (.ref b16)]) _
  refine own_st (fun t_ k_ => XS.iload X25.here hx rfl (hb hby at_78) rfl k_) ?_
  show own_Go p e below T25 (mkF m 80 #[.val (.int p0), .val (.int x0), .val (.int x1), .val (.int x2), .val (.int x3), .val (.int (4 : Int32)), .val (.ref b1), .val (.ref b16), .unset, .unset] [(.int x3), (.int (3 : Int32)), (.ref b16)]) _
  refine own_st (fun t_ k_ => XS.i2dS X25.here hx rfl (hb hby at_80) rfl rfl k_) ?_
  show own_Go p e below T25 (mkF m 81 #[.val (.int p0), .val (.int x0), .val (.int x1), .val (.int x2), .val (.int x3), .val (.int (4 : Int32)), .val (.ref b1), .val (.ref b16), .unset, .unset] [(.double (FP.i2d x3)), (.int (3 : Int32)), (.ref b16)]) _
  obtain ⟨cl27, Ar27, q27, Sz27, Nn27, Hh27, Gg27⟩ := id V25
  have hin27 : ¬ ((3 : Int32) < 0 ∨ cl27.slots.size ≤ ((3 : Int32)).toNatClampNeg) := inb_of Sz27 ⟨by decide, by decide⟩
  obtain ⟨T28, h28, X28, e28, W28, st28⟩ := stD X25 hx hZ e25 Ar27 (j := (3 : Int32)) hin27 (g := (mkF m 81 #[.val (.int p0), .val (.int x0), .val (.int x1), .val (.int x2), .val (.int x3), .val (.int (4 : Int32)), .val (.ref b1), .val (.ref b16), .unset, .unset] [(.double (FP.i2d x3)), (.int (3 : Int32)), (.ref b16)])) rfl rfl (hb hby at_81)
  have V28 : Arv Z h28 b16 k16 .double (4 : Int32) [(.double (FP.i2d x0)), (.double (FP.i2d x1)), (.double (FP.i2d x2)), (.double (FP.i2d x3))] (.double (0 : UInt64)) := Arv.set Ar27 q27 Sz27 Nn27 Hh27 Gg27 rfl W28 3 rfl (Nat.le_of_ble_eq_true rfl)
  have K29 : Keep h0 h28 [] := K26.wr W28 (Or.inr B16)
  have N28 := Fr.snoc X28 N25 G16
  refine own_st st28 ?_
  show own_Go p e below T28 (mkF m 82 #[.val (.int p0), .val (.int x0), .val (.int x1), .val (.int x2), .val (.int x3), .val (.int (4 : Int32)), .val (.ref b1), .val (.ref b16), .unset, .unset] []) _
  refine own_st (fun t_ k_ => XS.aload X28.here hx rfl (hb hby at_82) rfl rfl k_) ?_
  show own_Go p e below T28 (mkF m 84 #[.val (.int p0), .val (.int x0), .val (.int x1), .val (.int x2), .val (.int x3), .val (.int (4 : Int32)), .val (.ref b1), .val (.ref b16), .unset, .unset] [(.ref b16)]) _
  have f30 := (Nat.le_trans (Nat.le_trans (Nat.le_trans (Nat.le_trans (Nat.le_trans f15 E16.1) (Keep.of_wr W19).1) (Keep.of_wr W22).1) (Keep.of_wr W25).1) (Keep.of_wr W28).1)
  obtain ⟨_, _, ⟨T31, L31, k31, n31⟩, -, X31, ⟨Lc31, hQ31, l31, y31, z31⟩, st31⟩ := Jvm.LawKit.callS X28 hx (y := (⟨"com/example/spillback/spillback/behaviour/PlanSelector", "highest", "([D)I"⟩ : MethodName)) hown (mvT hZ (hw _ (List.mem_of_getElem? (i := 2) rfl))) (mvT hZ (hw _ (List.mem_of_getElem? (i := 3) rfl))) (mvT hZ (hw _ (List.mem_of_getElem? (i := 4) rfl))) (mvT hZ (hw _ (List.mem_of_getElem? (i := 5) rfl))) (by decide) (backOf (W := 0) (rmHi4 l Z a0 hw [] b16 k16 _ _ _ _ h28 n0 f30 V28) hZ (hw _ (List.mem_of_getElem? (i := 5) rfl)) (hw _ (List.mem_of_getElem? (i := 4) rfl)) (by decide) (by decide)) (g := (mkF m 84 #[.val (.int p0), .val (.int x0), .val (.int x1), .val (.int x2), .val (.int x3), .val (.int (4 : Int32)), .val (.ref b1), .val (.ref b16), .unset, .unset] [(.ref b16)])) rfl (by rw [hml]; rfl) (argsL := [(.ref b16)]) (rest := []) (lenOf pd___D_I rfl) rfl (by show 2 * 0 + _ ≤ _; exact Nat.le_of_eq rfl) (hb hby at_84) (fun _ _ => ⟨rfl, e28, (by decide : 2 + 0 ≤ _), (by decide : 8 + 0 ≤ _)⟩)
  dsimp only [Pt.U, Pt.locs, Pt.cells, Pt.slots] at X31 l31 y31 z31 st31 hQ31
  subst l31 y31 z31
  obtain ⟨r_31, rfl, Nq31, eH31, q31_0⟩ := hQ31
  have N31 := Fr.app N28 Nq31
  refine own_st st31 ?_
  show own_Go p e below T31 (mkF m 87 #[.val (.int p0), .val (.int x0), .val (.int x1), .val (.int x2), .val (.int x3), .val (.int (4 : Int32)), .val (.ref b1), .val (.ref b16), .unset, .unset] [(.int r_31)]) _
  rcases q31_0 with hy | hy | hy | hy
  · skip
    obtain ⟨er_31, hx1, hx2, hx3⟩ := hy
    subst er_31
    show own_Go p e below T31 (mkF m 87 #[.val (.int p0), .val (.int x0), .val (.int x1), .val (.int x2), .val (.int x3), .val (.int (4 : Int32)), .val (.ref b1), .val (.ref b16), .unset, .unset] [(.int (0 : Int32))]) _
    refine own_st (fun t_ k_ => XS.istore X31.here hx rfl (hb hby at_87) rfl (l' := #[.val (.int p0), .val (.int x0), .val (.int x1), .val (.int x2), .val (.int x3), .val (.int (4 : Int32)), .val (.ref b1), .val (.ref b16), .val (.int (0 : Int32)), .unset]) rfl k_) ?_
    show own_Go p e below T31 (mkF m 89 #[.val (.int p0), .val (.int x0), .val (.int x1), .val (.int x2), .val (.int x3), .val (.int (4 : Int32)), .val (.ref b1), .val (.ref b16), .val (.int (0 : Int32)), .unset] []) _
    refine own_st (fun t_ k_ => XS.iload X31.here hx rfl (hb hby at_89) rfl k_) ?_
    show own_Go p e below T31 (mkF m 91 #[.val (.int p0), .val (.int x0), .val (.int x1), .val (.int x2), .val (.int x3), .val (.int (4 : Int32)), .val (.ref b1), .val (.ref b16), .val (.int (0 : Int32)), .unset] [(.int (0 : Int32))]) _
    refine own_st (fun t_ k_ => XS.ifNo X31.here hx rfl (hb hby at_91) rfl (by decide) k_) ?_
    show own_Go p e below T31 (mkF m 94 #[.val (.int p0), .val (.int x0), .val (.int x1), .val (.int x2), .val (.int x3), .val (.int (4 : Int32)), .val (.ref b1), .val (.ref b16), .val (.int (0 : Int32)), .unset] []) _
    refine own_st (fun t_ k_ => XS.iload X31.here hx rfl (hb hby at_94) rfl k_) ?_
    show own_Go p e below T31 (mkF m 96 #[.val (.int p0), .val (.int x0), .val (.int x1), .val (.int x2), .val (.int x3), .val (.int (4 : Int32)), .val (.ref b1), .val (.ref b16), .val (.int (0 : Int32)), .unset] [(.int (0 : Int32))]) _
    refine own_st (fun t_ k_ => XS.iload X31.here hx rfl (hb hby at_96) rfl k_) ?_
    show own_Go p e below T31 (mkF m 98 #[.val (.int p0), .val (.int x0), .val (.int x1), .val (.int x2), .val (.int x3), .val (.int (4 : Int32)), .val (.ref b1), .val (.ref b16), .val (.int (0 : Int32)), .unset] [(.int (4 : Int32)), (.int (0 : Int32))]) _
    refine own_st (fun t_ k_ => XS.icmpYes X31.here hx rfl (pc0 := 98) (pc' := 103) rfl (hb hby at_98) rfl (by decide) (by decide) (by decide) k_) ?_
    show own_Go p e below T31 (mkF m 103 #[.val (.int p0), .val (.int x0), .val (.int x1), .val (.int x2), .val (.int x3), .val (.int (4 : Int32)), .val (.ref b1), .val (.ref b16), .val (.int (0 : Int32)), .unset] []) _
    refine own_st (fun t_ k_ => XS.aload X31.here hx rfl (hb hby at_103) rfl rfl k_) ?_
    show own_Go p e below T31 (mkF m 105 #[.val (.int p0), .val (.int x0), .val (.int x1), .val (.int x2), .val (.int x3), .val (.int (4 : Int32)), .val (.ref b1), .val (.ref b16), .val (.int (0 : Int32)), .unset] [(.ref b1)]) _
    refine own_st (fun t_ k_ => XS.iload X31.here hx rfl (hb hby at_105) rfl k_) ?_
    show own_Go p e below T31 (mkF m 107 #[.val (.int p0), .val (.int x0), .val (.int x1), .val (.int x2), .val (.int x3), .val (.int (4 : Int32)), .val (.ref b1), .val (.ref b16), .val (.int (0 : Int32)), .unset] [(.int (0 : Int32)), (.ref b1)]) _
    have f32 := (((((V13.ext E16).other W19 (Nat.ne_of_lt (Nat.lt_of_lt_of_le V13.lt (Nat.le_of_eq g16.symm)))).other W22 (Nat.ne_of_lt (Nat.lt_of_lt_of_le V13.lt (Nat.le_of_eq g16.symm)))).other W25 (Nat.ne_of_lt (Nat.lt_of_lt_of_le V13.lt (Nat.le_of_eq g16.symm)))).other W28 (Nat.ne_of_lt (Nat.lt_of_lt_of_le V13.lt (Nat.le_of_eq g16.symm))))
    obtain ⟨cl33, Ar33, q33, Sz33, Nn33, Hh33, Gg33⟩ := id f32
    have hin33 : ¬ ((0 : Int32) < 0 ∨ cl33.slots.size ≤ ((0 : Int32)).toNatClampNeg) := inb_of Sz33 ⟨by decide, by decide⟩
    have hat33 : cl33.slots[((0 : Int32)).toNatClampNeg]? = some (.int x0) := Has.at Hh33 hin33 rfl
    refine own_st (fun t_ k_ => X31.iaload hx (j := (0 : Int32)) (v := (.int x0)) (by rw [eH31]; exact Ar33.1) (State.isArrayOf_alike hZ.alike Ar33.2.1) Ar33.2.2 hin33 hat33 (g := (mkF m 107 #[.val (.int p0), .val (.int x0), .val (.int x1), .val (.int x2), .val (.int x3), .val (.int (4 : Int32)), .val (.ref b1), .val (.ref b16), .val (.int (0 : Int32)), .unset] [(.int (0 : Int32)), (.ref b1)])) rfl rfl (hb hby at_107) _ k_) ?_
    show own_Go p e below T31 (mkF m 108 #[.val (.int p0), .val (.int x0), .val (.int x1), .val (.int x2), .val (.int x3), .val (.int (4 : Int32)), .val (.ref b1), .val (.ref b16), .val (.int (0 : Int32)), .unset] [(.int x0)]) _
    refine own_st (fun t_ k_ => XS.istore X31.here hx rfl (hb hby at_108) rfl (l' := #[.val (.int p0), .val (.int x0), .val (.int x1), .val (.int x2), .val (.int x3), .val (.int (4 : Int32)), .val (.ref b1), .val (.ref b16), .val (.int (0 : Int32)), .val (.int x0)]) rfl k_) ?_
    show own_Go p e below T31 (mkF m 110 #[.val (.int p0), .val (.int x0), .val (.int x1), .val (.int x2), .val (.int x3), .val (.int (4 : Int32)), .val (.ref b1), .val (.ref b16), .val (.int (0 : Int32)), .val (.int x0)] []) _
    refine own_st (fun t_ k_ => XS.aload X31.here hx rfl (hb hby at_110) rfl rfl k_) ?_
    show own_Go p e below T31 (mkF m 112 #[.val (.int p0), .val (.int x0), .val (.int x1), .val (.int x2), .val (.int x3), .val (.int (4 : Int32)), .val (.ref b1), .val (.ref b16), .val (.int (0 : Int32)), .val (.int x0)] [(.ref b1)]) _
    refine own_st (fun t_ k_ => XS.iconst X31.here hx rfl (hb hby at_112) k_) ?_
    show own_Go p e below T31 (mkF m 113 #[.val (.int p0), .val (.int x0), .val (.int x1), .val (.int x2), .val (.int x3), .val (.int (4 : Int32)), .val (.ref b1), .val (.ref b16), .val (.int (0 : Int32)), .val (.int x0)] [(.int (0 : Int32)), (.ref b1)]) _
    refine own_st (fun t_ k_ => XS.iload X31.here hx rfl (hb hby at_113) rfl k_) ?_
    show own_Go p e below T31 (mkF m 115 #[.val (.int p0), .val (.int x0), .val (.int x1), .val (.int x2), .val (.int x3), .val (.int (4 : Int32)), .val (.ref b1), .val (.ref b16), .val (.int (0 : Int32)), .val (.int x0)] [(.int (4 : Int32)), (.int (0 : Int32)), (.ref b1)]) _
    refine own_st (fun t_ k_ => XS.iload X31.here hx rfl (hb hby at_115) rfl k_) ?_
    show own_Go p e below T31 (mkF m 117 #[.val (.int p0), .val (.int x0), .val (.int x1), .val (.int x2), .val (.int x3), .val (.int (4 : Int32)), .val (.ref b1), .val (.ref b16), .val (.int (0 : Int32)), .val (.int x0)] [(.int (0 : Int32)), (.int (4 : Int32)), (.int (0 : Int32)), (.ref b1)]) _
    refine own_st (fun t_ k_ => XS.iload X31.here hx rfl (hb hby at_117) rfl k_) ?_
    show own_Go p e below T31 (mkF m 119 #[.val (.int p0), .val (.int x0), .val (.int x1), .val (.int x2), .val (.int x3), .val (.int (4 : Int32)), .val (.ref b1), .val (.ref b16), .val (.int (0 : Int32)), .val (.int x0)] [(.int x0), (.int (0 : Int32)), (.int (4 : Int32)), (.int (0 : Int32)), (.ref b1)]) _
    obtain ⟨_, _, ⟨T34, L34, k34, n34⟩, -, X34, ⟨Lc34, hQ34, l34, y34, z34⟩, st34⟩ := Jvm.LawKit.callS X31 hx (y := (⟨"com/example/spillback/spillback/behaviour/PlanSelectorHighestPinLaw", "ok", "([IIIII)Z"⟩ : MethodName)) hown (mvT hZ (hw _ (List.mem_of_getElem? (i := 6) rfl))) (mvT hZ (hw _ (List.mem_of_getElem? (i := 7) rfl))) (mvT hZ (hw _ (List.mem_of_getElem? (i := 8) rfl))) (mvT hZ (hw _ (List.mem_of_getElem? (i := 9) rfl))) (by decide) (backOf (W := 0) (rmOk_0_4_0 l Z a0 hw [] b1 k1 x0 _ _ _ h28 n0 f30 f32) hZ (hw _ (List.mem_of_getElem? (i := 9) rfl)) (hw _ (List.mem_of_getElem? (i := 8) rfl)) (by decide) (by decide)) (g := (mkF m 119 #[.val (.int p0), .val (.int x0), .val (.int x1), .val (.int x2), .val (.int x3), .val (.int (4 : Int32)), .val (.ref b1), .val (.ref b16), .val (.int (0 : Int32)), .val (.int x0)] [(.int x0), (.int (0 : Int32)), (.int (4 : Int32)), (.int (0 : Int32)), (.ref b1)])) rfl (by rw [hml]; rfl) (argsL := [(.ref b1), (.int (0 : Int32)), (.int (4 : Int32)), (.int (0 : Int32)), (.int x0)]) (rest := []) (lenOf pd___IIIII_Z rfl) rfl (by show 2 * 0 + _ ≤ _; exact Nat.le_of_eq rfl) (hb hby at_119) (fun _ _ => ⟨rfl, eH31, (by decide : 2 + 0 ≤ _), (by decide : 8 + 0 ≤ _)⟩)
    dsimp only [Pt.U, Pt.locs, Pt.cells, Pt.slots] at X34 l34 y34 z34 st34 hQ34
    subst l34 y34 z34
    obtain ⟨rfl, Nq34, eH34⟩ := hQ34
    have N34 := Fr.app N31 Nq34
    refine own_st st34 ?_
    show own_Go p e below T34 (mkF m 122 #[.val (.int p0), .val (.int x0), .val (.int x1), .val (.int x2), .val (.int x3), .val (.int (4 : Int32)), .val (.ref b1), .val (.ref b16), .val (.int (0 : Int32)), .val (.int x0)] [(.int (1 : Int32))]) _
    refine own_st (fun t_ k_ => XS.ifNo X34.here hx rfl (hb hby at_122) rfl (by decide) k_) ?_
    show own_Go p e below T34 (mkF m 125 #[.val (.int p0), .val (.int x0), .val (.int x1), .val (.int x2), .val (.int x3), .val (.int (4 : Int32)), .val (.ref b1), .val (.ref b16), .val (.int (0 : Int32)), .val (.int x0)] []) _
    refine own_st (fun t_ k_ => XS.aload X34.here hx rfl (hb hby at_125) rfl rfl k_) ?_
    show own_Go p e below T34 (mkF m 127 #[.val (.int p0), .val (.int x0), .val (.int x1), .val (.int x2), .val (.int x3), .val (.int (4 : Int32)), .val (.ref b1), .val (.ref b16), .val (.int (0 : Int32)), .val (.int x0)] [(.ref b1)]) _
    refine own_st (fun t_ k_ => XS.iconst X34.here hx rfl (hb hby at_127) k_) ?_
    show own_Go p e below T34 (mkF m 128 #[.val (.int p0), .val (.int x0), .val (.int x1), .val (.int x2), .val (.int x3), .val (.int (4 : Int32)), .val (.ref b1), .val (.ref b16), .val (.int (0 : Int32)), .val (.int x0)] [(.int (1 : Int32)), (.ref b1)]) _
    refine own_st (fun t_ k_ => XS.iload X34.here hx rfl (hb hby at_128) rfl k_) ?_
    show own_Go p e below T34 (mkF m 130 #[.val (.int p0), .val (.int x0), .val (.int x1), .val (.int x2), .val (.int x3), .val (.int (4 : Int32)), .val (.ref b1), .val (.ref b16), .val (.int (0 : Int32)), .val (.int x0)] [(.int (4 : Int32)), (.int (1 : Int32)), (.ref b1)]) _
    refine own_st (fun t_ k_ => XS.iload X34.here hx rfl (hb hby at_130) rfl k_) ?_
    show own_Go p e below T34 (mkF m 132 #[.val (.int p0), .val (.int x0), .val (.int x1), .val (.int x2), .val (.int x3), .val (.int (4 : Int32)), .val (.ref b1), .val (.ref b16), .val (.int (0 : Int32)), .val (.int x0)] [(.int (0 : Int32)), (.int (4 : Int32)), (.int (1 : Int32)), (.ref b1)]) _
    refine own_st (fun t_ k_ => XS.iload X34.here hx rfl (hb hby at_132) rfl k_) ?_
    show own_Go p e below T34 (mkF m 134 #[.val (.int p0), .val (.int x0), .val (.int x1), .val (.int x2), .val (.int x3), .val (.int (4 : Int32)), .val (.ref b1), .val (.ref b16), .val (.int (0 : Int32)), .val (.int x0)] [(.int x0), (.int (0 : Int32)), (.int (4 : Int32)), (.int (1 : Int32)), (.ref b1)]) _
    obtain ⟨_, _, ⟨T35, L35, k35, n35⟩, -, X35, ⟨Lc35, hQ35, l35, y35, z35⟩, st35⟩ := Jvm.LawKit.callS X34 hx (y := (⟨"com/example/spillback/spillback/behaviour/PlanSelectorHighestPinLaw", "ok", "([IIIII)Z"⟩ : MethodName)) hown (mvT hZ (hw _ (List.mem_of_getElem? (i := 6) rfl))) (mvT hZ (hw _ (List.mem_of_getElem? (i := 7) rfl))) (mvT hZ (hw _ (List.mem_of_getElem? (i := 8) rfl))) (mvT hZ (hw _ (List.mem_of_getElem? (i := 9) rfl))) (by decide) (backOf (W := 0) (rmOk_1_4_0 l Z a0 hw [] b1 k1 x0 _ _ _ h28 n0 f30 f32 hx1) hZ (hw _ (List.mem_of_getElem? (i := 9) rfl)) (hw _ (List.mem_of_getElem? (i := 8) rfl)) (by decide) (by decide)) (g := (mkF m 134 #[.val (.int p0), .val (.int x0), .val (.int x1), .val (.int x2), .val (.int x3), .val (.int (4 : Int32)), .val (.ref b1), .val (.ref b16), .val (.int (0 : Int32)), .val (.int x0)] [(.int x0), (.int (0 : Int32)), (.int (4 : Int32)), (.int (1 : Int32)), (.ref b1)])) rfl (by rw [hml]; rfl) (argsL := [(.ref b1), (.int (1 : Int32)), (.int (4 : Int32)), (.int (0 : Int32)), (.int x0)]) (rest := []) (lenOf pd___IIIII_Z rfl) rfl (by show 2 * 0 + _ ≤ _; exact Nat.le_of_eq rfl) (hb hby at_134) (fun _ _ => ⟨rfl, eH34, (by decide : 2 + 0 ≤ _), (by decide : 8 + 0 ≤ _)⟩)
    dsimp only [Pt.U, Pt.locs, Pt.cells, Pt.slots] at X35 l35 y35 z35 st35 hQ35
    subst l35 y35 z35
    obtain ⟨rfl, Nq35, eH35⟩ := hQ35
    have N35 := Fr.app N34 Nq35
    refine own_st st35 ?_
    show own_Go p e below T35 (mkF m 137 #[.val (.int p0), .val (.int x0), .val (.int x1), .val (.int x2), .val (.int x3), .val (.int (4 : Int32)), .val (.ref b1), .val (.ref b16), .val (.int (0 : Int32)), .val (.int x0)] [(.int (1 : Int32))]) _
    refine own_st (fun t_ k_ => XS.ifNo X35.here hx rfl (hb hby at_137) rfl (by decide) k_) ?_
    show own_Go p e below T35 (mkF m 140 #[.val (.int p0), .val (.int x0), .val (.int x1), .val (.int x2), .val (.int x3), .val (.int (4 : Int32)), .val (.ref b1), .val (.ref b16), .val (.int (0 : Int32)), .val (.int x0)] []) _
    refine own_st (fun t_ k_ => XS.aload X35.here hx rfl (hb hby at_140) rfl rfl k_) ?_
    show own_Go p e below T35 (mkF m 142 #[.val (.int p0), .val (.int x0), .val (.int x1), .val (.int x2), .val (.int x3), .val (.int (4 : Int32)), .val (.ref b1), .val (.ref b16), .val (.int (0 : Int32)), .val (.int x0)] [(.ref b1)]) _
    refine own_st (fun t_ k_ => XS.iconst X35.here hx rfl (hb hby at_142) k_) ?_
    show own_Go p e below T35 (mkF m 143 #[.val (.int p0), .val (.int x0), .val (.int x1), .val (.int x2), .val (.int x3), .val (.int (4 : Int32)), .val (.ref b1), .val (.ref b16), .val (.int (0 : Int32)), .val (.int x0)] [(.int (2 : Int32)), (.ref b1)]) _
    refine own_st (fun t_ k_ => XS.iload X35.here hx rfl (hb hby at_143) rfl k_) ?_
    show own_Go p e below T35 (mkF m 145 #[.val (.int p0), .val (.int x0), .val (.int x1), .val (.int x2), .val (.int x3), .val (.int (4 : Int32)), .val (.ref b1), .val (.ref b16), .val (.int (0 : Int32)), .val (.int x0)] [(.int (4 : Int32)), (.int (2 : Int32)), (.ref b1)]) _
    refine own_st (fun t_ k_ => XS.iload X35.here hx rfl (hb hby at_145) rfl k_) ?_
    show own_Go p e below T35 (mkF m 147 #[.val (.int p0), .val (.int x0), .val (.int x1), .val (.int x2), .val (.int x3), .val (.int (4 : Int32)), .val (.ref b1), .val (.ref b16), .val (.int (0 : Int32)), .val (.int x0)] [(.int (0 : Int32)), (.int (4 : Int32)), (.int (2 : Int32)), (.ref b1)]) _
    refine own_st (fun t_ k_ => XS.iload X35.here hx rfl (hb hby at_147) rfl k_) ?_
    show own_Go p e below T35 (mkF m 149 #[.val (.int p0), .val (.int x0), .val (.int x1), .val (.int x2), .val (.int x3), .val (.int (4 : Int32)), .val (.ref b1), .val (.ref b16), .val (.int (0 : Int32)), .val (.int x0)] [(.int x0), (.int (0 : Int32)), (.int (4 : Int32)), (.int (2 : Int32)), (.ref b1)]) _
    obtain ⟨_, _, ⟨T36, L36, k36, n36⟩, -, X36, ⟨Lc36, hQ36, l36, y36, z36⟩, st36⟩ := Jvm.LawKit.callS X35 hx (y := (⟨"com/example/spillback/spillback/behaviour/PlanSelectorHighestPinLaw", "ok", "([IIIII)Z"⟩ : MethodName)) hown (mvT hZ (hw _ (List.mem_of_getElem? (i := 6) rfl))) (mvT hZ (hw _ (List.mem_of_getElem? (i := 7) rfl))) (mvT hZ (hw _ (List.mem_of_getElem? (i := 8) rfl))) (mvT hZ (hw _ (List.mem_of_getElem? (i := 9) rfl))) (by decide) (backOf (W := 0) (rmOk_2_4_0 l Z a0 hw [] b1 k1 x0 _ _ _ h28 n0 f30 f32 hx2) hZ (hw _ (List.mem_of_getElem? (i := 9) rfl)) (hw _ (List.mem_of_getElem? (i := 8) rfl)) (by decide) (by decide)) (g := (mkF m 149 #[.val (.int p0), .val (.int x0), .val (.int x1), .val (.int x2), .val (.int x3), .val (.int (4 : Int32)), .val (.ref b1), .val (.ref b16), .val (.int (0 : Int32)), .val (.int x0)] [(.int x0), (.int (0 : Int32)), (.int (4 : Int32)), (.int (2 : Int32)), (.ref b1)])) rfl (by rw [hml]; rfl) (argsL := [(.ref b1), (.int (2 : Int32)), (.int (4 : Int32)), (.int (0 : Int32)), (.int x0)]) (rest := []) (lenOf pd___IIIII_Z rfl) rfl (by show 2 * 0 + _ ≤ _; exact Nat.le_of_eq rfl) (hb hby at_149) (fun _ _ => ⟨rfl, eH35, (by decide : 2 + 0 ≤ _), (by decide : 8 + 0 ≤ _)⟩)
    dsimp only [Pt.U, Pt.locs, Pt.cells, Pt.slots] at X36 l36 y36 z36 st36 hQ36
    subst l36 y36 z36
    obtain ⟨rfl, Nq36, eH36⟩ := hQ36
    have N36 := Fr.app N35 Nq36
    refine own_st st36 ?_
    show own_Go p e below T36 (mkF m 152 #[.val (.int p0), .val (.int x0), .val (.int x1), .val (.int x2), .val (.int x3), .val (.int (4 : Int32)), .val (.ref b1), .val (.ref b16), .val (.int (0 : Int32)), .val (.int x0)] [(.int (1 : Int32))]) _
    refine own_st (fun t_ k_ => XS.ifNo X36.here hx rfl (hb hby at_152) rfl (by decide) k_) ?_
    show own_Go p e below T36 (mkF m 155 #[.val (.int p0), .val (.int x0), .val (.int x1), .val (.int x2), .val (.int x3), .val (.int (4 : Int32)), .val (.ref b1), .val (.ref b16), .val (.int (0 : Int32)), .val (.int x0)] []) _
    refine own_st (fun t_ k_ => XS.aload X36.here hx rfl (hb hby at_155) rfl rfl k_) ?_
    show own_Go p e below T36 (mkF m 157 #[.val (.int p0), .val (.int x0), .val (.int x1), .val (.int x2), .val (.int x3), .val (.int (4 : Int32)), .val (.ref b1), .val (.ref b16), .val (.int (0 : Int32)), .val (.int x0)] [(.ref b1)]) _
    refine own_st (fun t_ k_ => XS.iconst X36.here hx rfl (hb hby at_157) k_) ?_
    show own_Go p e below T36 (mkF m 158 #[.val (.int p0), .val (.int x0), .val (.int x1), .val (.int x2), .val (.int x3), .val (.int (4 : Int32)), .val (.ref b1), .val (.ref b16), .val (.int (0 : Int32)), .val (.int x0)] [(.int (3 : Int32)), (.ref b1)]) _
    refine own_st (fun t_ k_ => XS.iload X36.here hx rfl (hb hby at_158) rfl k_) ?_
    show own_Go p e below T36 (mkF m 160 #[.val (.int p0), .val (.int x0), .val (.int x1), .val (.int x2), .val (.int x3), .val (.int (4 : Int32)), .val (.ref b1), .val (.ref b16), .val (.int (0 : Int32)), .val (.int x0)] [(.int (4 : Int32)), (.int (3 : Int32)), (.ref b1)]) _
    refine own_st (fun t_ k_ => XS.iload X36.here hx rfl (hb hby at_160) rfl k_) ?_
    show own_Go p e below T36 (mkF m 162 #[.val (.int p0), .val (.int x0), .val (.int x1), .val (.int x2), .val (.int x3), .val (.int (4 : Int32)), .val (.ref b1), .val (.ref b16), .val (.int (0 : Int32)), .val (.int x0)] [(.int (0 : Int32)), (.int (4 : Int32)), (.int (3 : Int32)), (.ref b1)]) _
    refine own_st (fun t_ k_ => XS.iload X36.here hx rfl (hb hby at_162) rfl k_) ?_
    show own_Go p e below T36 (mkF m 164 #[.val (.int p0), .val (.int x0), .val (.int x1), .val (.int x2), .val (.int x3), .val (.int (4 : Int32)), .val (.ref b1), .val (.ref b16), .val (.int (0 : Int32)), .val (.int x0)] [(.int x0), (.int (0 : Int32)), (.int (4 : Int32)), (.int (3 : Int32)), (.ref b1)]) _
    obtain ⟨_, _, ⟨T37, L37, k37, n37⟩, -, X37, ⟨Lc37, hQ37, l37, y37, z37⟩, st37⟩ := Jvm.LawKit.callS X36 hx (y := (⟨"com/example/spillback/spillback/behaviour/PlanSelectorHighestPinLaw", "ok", "([IIIII)Z"⟩ : MethodName)) hown (mvT hZ (hw _ (List.mem_of_getElem? (i := 6) rfl))) (mvT hZ (hw _ (List.mem_of_getElem? (i := 7) rfl))) (mvT hZ (hw _ (List.mem_of_getElem? (i := 8) rfl))) (mvT hZ (hw _ (List.mem_of_getElem? (i := 9) rfl))) (by decide) (backOf (W := 0) (rmOk_3_4_0 l Z a0 hw [] b1 k1 x0 _ _ _ h28 n0 f30 f32 hx3) hZ (hw _ (List.mem_of_getElem? (i := 9) rfl)) (hw _ (List.mem_of_getElem? (i := 8) rfl)) (by decide) (by decide)) (g := (mkF m 164 #[.val (.int p0), .val (.int x0), .val (.int x1), .val (.int x2), .val (.int x3), .val (.int (4 : Int32)), .val (.ref b1), .val (.ref b16), .val (.int (0 : Int32)), .val (.int x0)] [(.int x0), (.int (0 : Int32)), (.int (4 : Int32)), (.int (3 : Int32)), (.ref b1)])) rfl (by rw [hml]; rfl) (argsL := [(.ref b1), (.int (3 : Int32)), (.int (4 : Int32)), (.int (0 : Int32)), (.int x0)]) (rest := []) (lenOf pd___IIIII_Z rfl) rfl (by show 2 * 0 + _ ≤ _; exact Nat.le_of_eq rfl) (hb hby at_164) (fun _ _ => ⟨rfl, eH36, (by decide : 2 + 0 ≤ _), (by decide : 8 + 0 ≤ _)⟩)
    dsimp only [Pt.U, Pt.locs, Pt.cells, Pt.slots] at X37 l37 y37 z37 st37 hQ37
    subst l37 y37 z37
    obtain ⟨rfl, Nq37, eH37⟩ := hQ37
    have N37 := Fr.app N36 Nq37
    refine own_st st37 ?_
    show own_Go p e below T37 (mkF m 167 #[.val (.int p0), .val (.int x0), .val (.int x1), .val (.int x2), .val (.int x3), .val (.int (4 : Int32)), .val (.ref b1), .val (.ref b16), .val (.int (0 : Int32)), .val (.int x0)] [(.int (1 : Int32))]) _
    refine own_st (fun t_ k_ => XS.ifNo X37.here hx rfl (hb hby at_167) rfl (by decide) k_) ?_
    show own_Go p e below T37 (mkF m 170 #[.val (.int p0), .val (.int x0), .val (.int x1), .val (.int x2), .val (.int x3), .val (.int (4 : Int32)), .val (.ref b1), .val (.ref b16), .val (.int (0 : Int32)), .val (.int x0)] []) _
    refine own_st (fun t_ k_ => XS.iconst X37.here hx rfl (hb hby at_170) k_) ?_
    show own_Go p e below T37 (mkF m 171 #[.val (.int p0), .val (.int x0), .val (.int x1), .val (.int x2), .val (.int x3), .val (.int (4 : Int32)), .val (.ref b1), .val (.ref b16), .val (.int (0 : Int32)), .val (.int x0)] [(.int (1 : Int32))]) _
    refine own_st (fun t_ k_ => XS.goto X37.here hx rfl (pc0 := 171) (pc' := 175) rfl (hb hby at_171) (by decide) (by decide) k_) ?_
    show own_Go p e below T37 (mkF m 175 #[.val (.int p0), .val (.int x0), .val (.int x1), .val (.int x2), .val (.int x3), .val (.int (4 : Int32)), .val (.ref b1), .val (.ref b16), .val (.int (0 : Int32)), .val (.int x0)] [(.int (1 : Int32))]) _
    obtain ⟨fs, hr, hrun, hended, hW, hsame⟩ := X37.leave (v := some (.int (1 : Int32))) (fun h => by rw [Bd.returns] at h; cases h)
    refine own_fin (retN X37 hx (t := .boolean) Bd.returns (by simp) (hb hby at_175) hr) ⟨hrun, hended, _, _, rfl, ?_, ⟨_, rfl⟩, hW, hsame.mono (by decide) (by decide)⟩
    show Q_rmLaw4 Z p0 x0 x1 x2 x3 h0 n0 _ T37.heap _
    rw [eH37]
    exact ⟨rfl, N37, K29⟩
  · skip
    obtain ⟨er_31, hx0, hx2, hx3⟩ := hy
    subst er_31
    show own_Go p e below T31 (mkF m 87 #[.val (.int p0), .val (.int x0), .val (.int x1), .val (.int x2), .val (.int x3), .val (.int (4 : Int32)), .val (.ref b1), .val (.ref b16), .unset, .unset] [(.int (1 : Int32))]) _
    refine own_st (fun t_ k_ => XS.istore X31.here hx rfl (hb hby at_87) rfl (l' := #[.val (.int p0), .val (.int x0), .val (.int x1), .val (.int x2), .val (.int x3), .val (.int (4 : Int32)), .val (.ref b1), .val (.ref b16), .val (.int (1 : Int32)), .unset]) rfl k_) ?_
    show own_Go p e below T31 (mkF m 89 #[.val (.int p0), .val (.int x0), .val (.int x1), .val (.int x2), .val (.int x3), .val (.int (4 : Int32)), .val (.ref b1), .val (.ref b16), .val (.int (1 : Int32)), .unset] []) _
    refine own_st (fun t_ k_ => XS.iload X31.here hx rfl (hb hby at_89) rfl k_) ?_
    show own_Go p e below T31 (mkF m 91 #[.val (.int p0), .val (.int x0), .val (.int x1), .val (.int x2), .val (.int x3), .val (.int (4 : Int32)), .val (.ref b1), .val (.ref b16), .val (.int (1 : Int32)), .unset] [(.int (1 : Int32))]) _
    refine own_st (fun t_ k_ => XS.ifNo X31.here hx rfl (hb hby at_91) rfl (by decide) k_) ?_
    show own_Go p e below T31 (mkF m 94 #[.val (.int p0), .val (.int x0), .val (.int x1), .val (.int x2), .val (.int x3), .val (.int (4 : Int32)), .val (.ref b1), .val (.ref b16), .val (.int (1 : Int32)), .unset] []) _
    refine own_st (fun t_ k_ => XS.iload X31.here hx rfl (hb hby at_94) rfl k_) ?_
    show own_Go p e below T31 (mkF m 96 #[.val (.int p0), .val (.int x0), .val (.int x1), .val (.int x2), .val (.int x3), .val (.int (4 : Int32)), .val (.ref b1), .val (.ref b16), .val (.int (1 : Int32)), .unset] [(.int (1 : Int32))]) _
    refine own_st (fun t_ k_ => XS.iload X31.here hx rfl (hb hby at_96) rfl k_) ?_
    show own_Go p e below T31 (mkF m 98 #[.val (.int p0), .val (.int x0), .val (.int x1), .val (.int x2), .val (.int x3), .val (.int (4 : Int32)), .val (.ref b1), .val (.ref b16), .val (.int (1 : Int32)), .unset] [(.int (4 : Int32)), (.int (1 : Int32))]) _
    refine own_st (fun t_ k_ => XS.icmpYes X31.here hx rfl (pc0 := 98) (pc' := 103) rfl (hb hby at_98) rfl (by decide) (by decide) (by decide) k_) ?_
    show own_Go p e below T31 (mkF m 103 #[.val (.int p0), .val (.int x0), .val (.int x1), .val (.int x2), .val (.int x3), .val (.int (4 : Int32)), .val (.ref b1), .val (.ref b16), .val (.int (1 : Int32)), .unset] []) _
    refine own_st (fun t_ k_ => XS.aload X31.here hx rfl (hb hby at_103) rfl rfl k_) ?_
    show own_Go p e below T31 (mkF m 105 #[.val (.int p0), .val (.int x0), .val (.int x1), .val (.int x2), .val (.int x3), .val (.int (4 : Int32)), .val (.ref b1), .val (.ref b16), .val (.int (1 : Int32)), .unset] [(.ref b1)]) _
    refine own_st (fun t_ k_ => XS.iload X31.here hx rfl (hb hby at_105) rfl k_) ?_
    show own_Go p e below T31 (mkF m 107 #[.val (.int p0), .val (.int x0), .val (.int x1), .val (.int x2), .val (.int x3), .val (.int (4 : Int32)), .val (.ref b1), .val (.ref b16), .val (.int (1 : Int32)), .unset] [(.int (1 : Int32)), (.ref b1)]) _
    have f38 := (((((V13.ext E16).other W19 (Nat.ne_of_lt (Nat.lt_of_lt_of_le V13.lt (Nat.le_of_eq g16.symm)))).other W22 (Nat.ne_of_lt (Nat.lt_of_lt_of_le V13.lt (Nat.le_of_eq g16.symm)))).other W25 (Nat.ne_of_lt (Nat.lt_of_lt_of_le V13.lt (Nat.le_of_eq g16.symm)))).other W28 (Nat.ne_of_lt (Nat.lt_of_lt_of_le V13.lt (Nat.le_of_eq g16.symm))))
    obtain ⟨cl39, Ar39, q39, Sz39, Nn39, Hh39, Gg39⟩ := id f38
    have hin39 : ¬ ((1 : Int32) < 0 ∨ cl39.slots.size ≤ ((1 : Int32)).toNatClampNeg) := inb_of Sz39 ⟨by decide, by decide⟩
    have hat39 : cl39.slots[((1 : Int32)).toNatClampNeg]? = some (.int x1) := Has.at Hh39 hin39 rfl
    refine own_st (fun t_ k_ => X31.iaload hx (j := (1 : Int32)) (v := (.int x1)) (by rw [eH31]; exact Ar39.1) (State.isArrayOf_alike hZ.alike Ar39.2.1) Ar39.2.2 hin39 hat39 (g := (mkF m 107 #[.val (.int p0), .val (.int x0), .val (.int x1), .val (.int x2), .val (.int x3), .val (.int (4 : Int32)), .val (.ref b1), .val (.ref b16), .val (.int (1 : Int32)), .unset] [(.int (1 : Int32)), (.ref b1)])) rfl rfl (hb hby at_107) _ k_) ?_
    show own_Go p e below T31 (mkF m 108 #[.val (.int p0), .val (.int x0), .val (.int x1), .val (.int x2), .val (.int x3), .val (.int (4 : Int32)), .val (.ref b1), .val (.ref b16), .val (.int (1 : Int32)), .unset] [(.int x1)]) _
    refine own_st (fun t_ k_ => XS.istore X31.here hx rfl (hb hby at_108) rfl (l' := #[.val (.int p0), .val (.int x0), .val (.int x1), .val (.int x2), .val (.int x3), .val (.int (4 : Int32)), .val (.ref b1), .val (.ref b16), .val (.int (1 : Int32)), .val (.int x1)]) rfl k_) ?_
    show own_Go p e below T31 (mkF m 110 #[.val (.int p0), .val (.int x0), .val (.int x1), .val (.int x2), .val (.int x3), .val (.int (4 : Int32)), .val (.ref b1), .val (.ref b16), .val (.int (1 : Int32)), .val (.int x1)] []) _
    refine own_st (fun t_ k_ => XS.aload X31.here hx rfl (hb hby at_110) rfl rfl k_) ?_
    show own_Go p e below T31 (mkF m 112 #[.val (.int p0), .val (.int x0), .val (.int x1), .val (.int x2), .val (.int x3), .val (.int (4 : Int32)), .val (.ref b1), .val (.ref b16), .val (.int (1 : Int32)), .val (.int x1)] [(.ref b1)]) _
    refine own_st (fun t_ k_ => XS.iconst X31.here hx rfl (hb hby at_112) k_) ?_
    show own_Go p e below T31 (mkF m 113 #[.val (.int p0), .val (.int x0), .val (.int x1), .val (.int x2), .val (.int x3), .val (.int (4 : Int32)), .val (.ref b1), .val (.ref b16), .val (.int (1 : Int32)), .val (.int x1)] [(.int (0 : Int32)), (.ref b1)]) _
    refine own_st (fun t_ k_ => XS.iload X31.here hx rfl (hb hby at_113) rfl k_) ?_
    show own_Go p e below T31 (mkF m 115 #[.val (.int p0), .val (.int x0), .val (.int x1), .val (.int x2), .val (.int x3), .val (.int (4 : Int32)), .val (.ref b1), .val (.ref b16), .val (.int (1 : Int32)), .val (.int x1)] [(.int (4 : Int32)), (.int (0 : Int32)), (.ref b1)]) _
    refine own_st (fun t_ k_ => XS.iload X31.here hx rfl (hb hby at_115) rfl k_) ?_
    show own_Go p e below T31 (mkF m 117 #[.val (.int p0), .val (.int x0), .val (.int x1), .val (.int x2), .val (.int x3), .val (.int (4 : Int32)), .val (.ref b1), .val (.ref b16), .val (.int (1 : Int32)), .val (.int x1)] [(.int (1 : Int32)), (.int (4 : Int32)), (.int (0 : Int32)), (.ref b1)]) _
    refine own_st (fun t_ k_ => XS.iload X31.here hx rfl (hb hby at_117) rfl k_) ?_
    show own_Go p e below T31 (mkF m 119 #[.val (.int p0), .val (.int x0), .val (.int x1), .val (.int x2), .val (.int x3), .val (.int (4 : Int32)), .val (.ref b1), .val (.ref b16), .val (.int (1 : Int32)), .val (.int x1)] [(.int x1), (.int (1 : Int32)), (.int (4 : Int32)), (.int (0 : Int32)), (.ref b1)]) _
    obtain ⟨_, _, ⟨T40, L40, k40, n40⟩, -, X40, ⟨Lc40, hQ40, l40, y40, z40⟩, st40⟩ := Jvm.LawKit.callS X31 hx (y := (⟨"com/example/spillback/spillback/behaviour/PlanSelectorHighestPinLaw", "ok", "([IIIII)Z"⟩ : MethodName)) hown (mvT hZ (hw _ (List.mem_of_getElem? (i := 6) rfl))) (mvT hZ (hw _ (List.mem_of_getElem? (i := 7) rfl))) (mvT hZ (hw _ (List.mem_of_getElem? (i := 8) rfl))) (mvT hZ (hw _ (List.mem_of_getElem? (i := 9) rfl))) (by decide) (backOf (W := 0) (rmOk_0_4_1 l Z a0 hw [] b1 k1 _ x1 _ _ h28 n0 f30 f38 hx0) hZ (hw _ (List.mem_of_getElem? (i := 9) rfl)) (hw _ (List.mem_of_getElem? (i := 8) rfl)) (by decide) (by decide)) (g := (mkF m 119 #[.val (.int p0), .val (.int x0), .val (.int x1), .val (.int x2), .val (.int x3), .val (.int (4 : Int32)), .val (.ref b1), .val (.ref b16), .val (.int (1 : Int32)), .val (.int x1)] [(.int x1), (.int (1 : Int32)), (.int (4 : Int32)), (.int (0 : Int32)), (.ref b1)])) rfl (by rw [hml]; rfl) (argsL := [(.ref b1), (.int (0 : Int32)), (.int (4 : Int32)), (.int (1 : Int32)), (.int x1)]) (rest := []) (lenOf pd___IIIII_Z rfl) rfl (by show 2 * 0 + _ ≤ _; exact Nat.le_of_eq rfl) (hb hby at_119) (fun _ _ => ⟨rfl, eH31, (by decide : 2 + 0 ≤ _), (by decide : 8 + 0 ≤ _)⟩)
    dsimp only [Pt.U, Pt.locs, Pt.cells, Pt.slots] at X40 l40 y40 z40 st40 hQ40
    subst l40 y40 z40
    obtain ⟨rfl, Nq40, eH40⟩ := hQ40
    have N40 := Fr.app N31 Nq40
    refine own_st st40 ?_
    show own_Go p e below T40 (mkF m 122 #[.val (.int p0), .val (.int x0), .val (.int x1), .val (.int x2), .val (.int x3), .val (.int (4 : Int32)), .val (.ref b1), .val (.ref b16), .val (.int (1 : Int32)), .val (.int x1)] [(.int (1 : Int32))]) _
    refine own_st (fun t_ k_ => XS.ifNo X40.here hx rfl (hb hby at_122) rfl (by decide) k_) ?_
    show own_Go p e below T40 (mkF m 125 #[.val (.int p0), .val (.int x0), .val (.int x1), .val (.int x2), .val (.int x3), .val (.int (4 : Int32)), .val (.ref b1), .val (.ref b16), .val (.int (1 : Int32)), .val (.int x1)] []) _
    refine own_st (fun t_ k_ => XS.aload X40.here hx rfl (hb hby at_125) rfl rfl k_) ?_
    show own_Go p e below T40 (mkF m 127 #[.val (.int p0), .val (.int x0), .val (.int x1), .val (.int x2), .val (.int x3), .val (.int (4 : Int32)), .val (.ref b1), .val (.ref b16), .val (.int (1 : Int32)), .val (.int x1)] [(.ref b1)]) _
    refine own_st (fun t_ k_ => XS.iconst X40.here hx rfl (hb hby at_127) k_) ?_
    show own_Go p e below T40 (mkF m 128 #[.val (.int p0), .val (.int x0), .val (.int x1), .val (.int x2), .val (.int x3), .val (.int (4 : Int32)), .val (.ref b1), .val (.ref b16), .val (.int (1 : Int32)), .val (.int x1)] [(.int (1 : Int32)), (.ref b1)]) _
    refine own_st (fun t_ k_ => XS.iload X40.here hx rfl (hb hby at_128) rfl k_) ?_
    show own_Go p e below T40 (mkF m 130 #[.val (.int p0), .val (.int x0), .val (.int x1), .val (.int x2), .val (.int x3), .val (.int (4 : Int32)), .val (.ref b1), .val (.ref b16), .val (.int (1 : Int32)), .val (.int x1)] [(.int (4 : Int32)), (.int (1 : Int32)), (.ref b1)]) _
    refine own_st (fun t_ k_ => XS.iload X40.here hx rfl (hb hby at_130) rfl k_) ?_
    show own_Go p e below T40 (mkF m 132 #[.val (.int p0), .val (.int x0), .val (.int x1), .val (.int x2), .val (.int x3), .val (.int (4 : Int32)), .val (.ref b1), .val (.ref b16), .val (.int (1 : Int32)), .val (.int x1)] [(.int (1 : Int32)), (.int (4 : Int32)), (.int (1 : Int32)), (.ref b1)]) _
    refine own_st (fun t_ k_ => XS.iload X40.here hx rfl (hb hby at_132) rfl k_) ?_
    show own_Go p e below T40 (mkF m 134 #[.val (.int p0), .val (.int x0), .val (.int x1), .val (.int x2), .val (.int x3), .val (.int (4 : Int32)), .val (.ref b1), .val (.ref b16), .val (.int (1 : Int32)), .val (.int x1)] [(.int x1), (.int (1 : Int32)), (.int (4 : Int32)), (.int (1 : Int32)), (.ref b1)]) _
    obtain ⟨_, _, ⟨T41, L41, k41, n41⟩, -, X41, ⟨Lc41, hQ41, l41, y41, z41⟩, st41⟩ := Jvm.LawKit.callS X40 hx (y := (⟨"com/example/spillback/spillback/behaviour/PlanSelectorHighestPinLaw", "ok", "([IIIII)Z"⟩ : MethodName)) hown (mvT hZ (hw _ (List.mem_of_getElem? (i := 6) rfl))) (mvT hZ (hw _ (List.mem_of_getElem? (i := 7) rfl))) (mvT hZ (hw _ (List.mem_of_getElem? (i := 8) rfl))) (mvT hZ (hw _ (List.mem_of_getElem? (i := 9) rfl))) (by decide) (backOf (W := 0) (rmOk_1_4_1 l Z a0 hw [] b1 k1 _ x1 _ _ h28 n0 f30 f38) hZ (hw _ (List.mem_of_getElem? (i := 9) rfl)) (hw _ (List.mem_of_getElem? (i := 8) rfl)) (by decide) (by decide)) (g := (mkF m 134 #[.val (.int p0), .val (.int x0), .val (.int x1), .val (.int x2), .val (.int x3), .val (.int (4 : Int32)), .val (.ref b1), .val (.ref b16), .val (.int (1 : Int32)), .val (.int x1)] [(.int x1), (.int (1 : Int32)), (.int (4 : Int32)), (.int (1 : Int32)), (.ref b1)])) rfl (by rw [hml]; rfl) (argsL := [(.ref b1), (.int (1 : Int32)), (.int (4 : Int32)), (.int (1 : Int32)), (.int x1)]) (rest := []) (lenOf pd___IIIII_Z rfl) rfl (by show 2 * 0 + _ ≤ _; exact Nat.le_of_eq rfl) (hb hby at_134) (fun _ _ => ⟨rfl, eH40, (by decide : 2 + 0 ≤ _), (by decide : 8 + 0 ≤ _)⟩)
    dsimp only [Pt.U, Pt.locs, Pt.cells, Pt.slots] at X41 l41 y41 z41 st41 hQ41
    subst l41 y41 z41
    obtain ⟨rfl, Nq41, eH41⟩ := hQ41
    have N41 := Fr.app N40 Nq41
    refine own_st st41 ?_
    show own_Go p e below T41 (mkF m 137 #[.val (.int p0), .val (.int x0), .val (.int x1), .val (.int x2), .val (.int x3), .val (.int (4 : Int32)), .val (.ref b1), .val (.ref b16), .val (.int (1 : Int32)), .val (.int x1)] [(.int (1 : Int32))]) _
    refine own_st (fun t_ k_ => XS.ifNo X41.here hx rfl (hb hby at_137) rfl (by decide) k_) ?_
    show own_Go p e below T41 (mkF m 140 #[.val (.int p0), .val (.int x0), .val (.int x1), .val (.int x2), .val (.int x3), .val (.int (4 : Int32)), .val (.ref b1), .val (.ref b16), .val (.int (1 : Int32)), .val (.int x1)] []) _
    refine own_st (fun t_ k_ => XS.aload X41.here hx rfl (hb hby at_140) rfl rfl k_) ?_
    show own_Go p e below T41 (mkF m 142 #[.val (.int p0), .val (.int x0), .val (.int x1), .val (.int x2), .val (.int x3), .val (.int (4 : Int32)), .val (.ref b1), .val (.ref b16), .val (.int (1 : Int32)), .val (.int x1)] [(.ref b1)]) _
    refine own_st (fun t_ k_ => XS.iconst X41.here hx rfl (hb hby at_142) k_) ?_
    show own_Go p e below T41 (mkF m 143 #[.val (.int p0), .val (.int x0), .val (.int x1), .val (.int x2), .val (.int x3), .val (.int (4 : Int32)), .val (.ref b1), .val (.ref b16), .val (.int (1 : Int32)), .val (.int x1)] [(.int (2 : Int32)), (.ref b1)]) _
    refine own_st (fun t_ k_ => XS.iload X41.here hx rfl (hb hby at_143) rfl k_) ?_
    show own_Go p e below T41 (mkF m 145 #[.val (.int p0), .val (.int x0), .val (.int x1), .val (.int x2), .val (.int x3), .val (.int (4 : Int32)), .val (.ref b1), .val (.ref b16), .val (.int (1 : Int32)), .val (.int x1)] [(.int (4 : Int32)), (.int (2 : Int32)), (.ref b1)]) _
    refine own_st (fun t_ k_ => XS.iload X41.here hx rfl (hb hby at_145) rfl k_) ?_
    show own_Go p e below T41 (mkF m 147 #[.val (.int p0), .val (.int x0), .val (.int x1), .val (.int x2), .val (.int x3), .val (.int (4 : Int32)), .val (.ref b1), .val (.ref b16), .val (.int (1 : Int32)), .val (.int x1)] [(.int (1 : Int32)), (.int (4 : Int32)), (.int (2 : Int32)), (.ref b1)]) _
    refine own_st (fun t_ k_ => XS.iload X41.here hx rfl (hb hby at_147) rfl k_) ?_
    show own_Go p e below T41 (mkF m 149 #[.val (.int p0), .val (.int x0), .val (.int x1), .val (.int x2), .val (.int x3), .val (.int (4 : Int32)), .val (.ref b1), .val (.ref b16), .val (.int (1 : Int32)), .val (.int x1)] [(.int x1), (.int (1 : Int32)), (.int (4 : Int32)), (.int (2 : Int32)), (.ref b1)]) _
    obtain ⟨_, _, ⟨T42, L42, k42, n42⟩, -, X42, ⟨Lc42, hQ42, l42, y42, z42⟩, st42⟩ := Jvm.LawKit.callS X41 hx (y := (⟨"com/example/spillback/spillback/behaviour/PlanSelectorHighestPinLaw", "ok", "([IIIII)Z"⟩ : MethodName)) hown (mvT hZ (hw _ (List.mem_of_getElem? (i := 6) rfl))) (mvT hZ (hw _ (List.mem_of_getElem? (i := 7) rfl))) (mvT hZ (hw _ (List.mem_of_getElem? (i := 8) rfl))) (mvT hZ (hw _ (List.mem_of_getElem? (i := 9) rfl))) (by decide) (backOf (W := 0) (rmOk_2_4_1 l Z a0 hw [] b1 k1 _ x1 _ _ h28 n0 f30 f38 hx2) hZ (hw _ (List.mem_of_getElem? (i := 9) rfl)) (hw _ (List.mem_of_getElem? (i := 8) rfl)) (by decide) (by decide)) (g := (mkF m 149 #[.val (.int p0), .val (.int x0), .val (.int x1), .val (.int x2), .val (.int x3), .val (.int (4 : Int32)), .val (.ref b1), .val (.ref b16), .val (.int (1 : Int32)), .val (.int x1)] [(.int x1), (.int (1 : Int32)), (.int (4 : Int32)), (.int (2 : Int32)), (.ref b1)])) rfl (by rw [hml]; rfl) (argsL := [(.ref b1), (.int (2 : Int32)), (.int (4 : Int32)), (.int (1 : Int32)), (.int x1)]) (rest := []) (lenOf pd___IIIII_Z rfl) rfl (by show 2 * 0 + _ ≤ _; exact Nat.le_of_eq rfl) (hb hby at_149) (fun _ _ => ⟨rfl, eH41, (by decide : 2 + 0 ≤ _), (by decide : 8 + 0 ≤ _)⟩)
    dsimp only [Pt.U, Pt.locs, Pt.cells, Pt.slots] at X42 l42 y42 z42 st42 hQ42
    subst l42 y42 z42
    obtain ⟨rfl, Nq42, eH42⟩ := hQ42
    have N42 := Fr.app N41 Nq42
    refine own_st st42 ?_
    show own_Go p e below T42 (mkF m 152 #[.val (.int p0), .val (.int x0), .val (.int x1), .val (.int x2), .val (.int x3), .val (.int (4 : Int32)), .val (.ref b1), .val (.ref b16), .val (.int (1 : Int32)), .val (.int x1)] [(.int (1 : Int32))]) _
    refine own_st (fun t_ k_ => XS.ifNo X42.here hx rfl (hb hby at_152) rfl (by decide) k_) ?_
    show own_Go p e below T42 (mkF m 155 #[.val (.int p0), .val (.int x0), .val (.int x1), .val (.int x2), .val (.int x3), .val (.int (4 : Int32)), .val (.ref b1), .val (.ref b16), .val (.int (1 : Int32)), .val (.int x1)] []) _
    refine own_st (fun t_ k_ => XS.aload X42.here hx rfl (hb hby at_155) rfl rfl k_) ?_
    show own_Go p e below T42 (mkF m 157 #[.val (.int p0), .val (.int x0), .val (.int x1), .val (.int x2), .val (.int x3), .val (.int (4 : Int32)), .val (.ref b1), .val (.ref b16), .val (.int (1 : Int32)), .val (.int x1)] [(.ref b1)]) _
    refine own_st (fun t_ k_ => XS.iconst X42.here hx rfl (hb hby at_157) k_) ?_
    show own_Go p e below T42 (mkF m 158 #[.val (.int p0), .val (.int x0), .val (.int x1), .val (.int x2), .val (.int x3), .val (.int (4 : Int32)), .val (.ref b1), .val (.ref b16), .val (.int (1 : Int32)), .val (.int x1)] [(.int (3 : Int32)), (.ref b1)]) _
    refine own_st (fun t_ k_ => XS.iload X42.here hx rfl (hb hby at_158) rfl k_) ?_
    show own_Go p e below T42 (mkF m 160 #[.val (.int p0), .val (.int x0), .val (.int x1), .val (.int x2), .val (.int x3), .val (.int (4 : Int32)), .val (.ref b1), .val (.ref b16), .val (.int (1 : Int32)), .val (.int x1)] [(.int (4 : Int32)), (.int (3 : Int32)), (.ref b1)]) _
    refine own_st (fun t_ k_ => XS.iload X42.here hx rfl (hb hby at_160) rfl k_) ?_
    show own_Go p e below T42 (mkF m 162 #[.val (.int p0), .val (.int x0), .val (.int x1), .val (.int x2), .val (.int x3), .val (.int (4 : Int32)), .val (.ref b1), .val (.ref b16), .val (.int (1 : Int32)), .val (.int x1)] [(.int (1 : Int32)), (.int (4 : Int32)), (.int (3 : Int32)), (.ref b1)]) _
    refine own_st (fun t_ k_ => XS.iload X42.here hx rfl (hb hby at_162) rfl k_) ?_
    show own_Go p e below T42 (mkF m 164 #[.val (.int p0), .val (.int x0), .val (.int x1), .val (.int x2), .val (.int x3), .val (.int (4 : Int32)), .val (.ref b1), .val (.ref b16), .val (.int (1 : Int32)), .val (.int x1)] [(.int x1), (.int (1 : Int32)), (.int (4 : Int32)), (.int (3 : Int32)), (.ref b1)]) _
    obtain ⟨_, _, ⟨T43, L43, k43, n43⟩, -, X43, ⟨Lc43, hQ43, l43, y43, z43⟩, st43⟩ := Jvm.LawKit.callS X42 hx (y := (⟨"com/example/spillback/spillback/behaviour/PlanSelectorHighestPinLaw", "ok", "([IIIII)Z"⟩ : MethodName)) hown (mvT hZ (hw _ (List.mem_of_getElem? (i := 6) rfl))) (mvT hZ (hw _ (List.mem_of_getElem? (i := 7) rfl))) (mvT hZ (hw _ (List.mem_of_getElem? (i := 8) rfl))) (mvT hZ (hw _ (List.mem_of_getElem? (i := 9) rfl))) (by decide) (backOf (W := 0) (rmOk_3_4_1 l Z a0 hw [] b1 k1 _ x1 _ _ h28 n0 f30 f38 hx3) hZ (hw _ (List.mem_of_getElem? (i := 9) rfl)) (hw _ (List.mem_of_getElem? (i := 8) rfl)) (by decide) (by decide)) (g := (mkF m 164 #[.val (.int p0), .val (.int x0), .val (.int x1), .val (.int x2), .val (.int x3), .val (.int (4 : Int32)), .val (.ref b1), .val (.ref b16), .val (.int (1 : Int32)), .val (.int x1)] [(.int x1), (.int (1 : Int32)), (.int (4 : Int32)), (.int (3 : Int32)), (.ref b1)])) rfl (by rw [hml]; rfl) (argsL := [(.ref b1), (.int (3 : Int32)), (.int (4 : Int32)), (.int (1 : Int32)), (.int x1)]) (rest := []) (lenOf pd___IIIII_Z rfl) rfl (by show 2 * 0 + _ ≤ _; exact Nat.le_of_eq rfl) (hb hby at_164) (fun _ _ => ⟨rfl, eH42, (by decide : 2 + 0 ≤ _), (by decide : 8 + 0 ≤ _)⟩)
    dsimp only [Pt.U, Pt.locs, Pt.cells, Pt.slots] at X43 l43 y43 z43 st43 hQ43
    subst l43 y43 z43
    obtain ⟨rfl, Nq43, eH43⟩ := hQ43
    have N43 := Fr.app N42 Nq43
    refine own_st st43 ?_
    show own_Go p e below T43 (mkF m 167 #[.val (.int p0), .val (.int x0), .val (.int x1), .val (.int x2), .val (.int x3), .val (.int (4 : Int32)), .val (.ref b1), .val (.ref b16), .val (.int (1 : Int32)), .val (.int x1)] [(.int (1 : Int32))]) _
    refine own_st (fun t_ k_ => XS.ifNo X43.here hx rfl (hb hby at_167) rfl (by decide) k_) ?_
    show own_Go p e below T43 (mkF m 170 #[.val (.int p0), .val (.int x0), .val (.int x1), .val (.int x2), .val (.int x3), .val (.int (4 : Int32)), .val (.ref b1), .val (.ref b16), .val (.int (1 : Int32)), .val (.int x1)] []) _
    refine own_st (fun t_ k_ => XS.iconst X43.here hx rfl (hb hby at_170) k_) ?_
    show own_Go p e below T43 (mkF m 171 #[.val (.int p0), .val (.int x0), .val (.int x1), .val (.int x2), .val (.int x3), .val (.int (4 : Int32)), .val (.ref b1), .val (.ref b16), .val (.int (1 : Int32)), .val (.int x1)] [(.int (1 : Int32))]) _
    refine own_st (fun t_ k_ => XS.goto X43.here hx rfl (pc0 := 171) (pc' := 175) rfl (hb hby at_171) (by decide) (by decide) k_) ?_
    show own_Go p e below T43 (mkF m 175 #[.val (.int p0), .val (.int x0), .val (.int x1), .val (.int x2), .val (.int x3), .val (.int (4 : Int32)), .val (.ref b1), .val (.ref b16), .val (.int (1 : Int32)), .val (.int x1)] [(.int (1 : Int32))]) _
    obtain ⟨fs, hr, hrun, hended, hW, hsame⟩ := X43.leave (v := some (.int (1 : Int32))) (fun h => by rw [Bd.returns] at h; cases h)
    refine own_fin (retN X43 hx (t := .boolean) Bd.returns (by simp) (hb hby at_175) hr) ⟨hrun, hended, _, _, rfl, ?_, ⟨_, rfl⟩, hW, hsame.mono (by decide) (by decide)⟩
    show Q_rmLaw4 Z p0 x0 x1 x2 x3 h0 n0 _ T43.heap _
    rw [eH43]
    exact ⟨rfl, N43, K29⟩
  · skip
    obtain ⟨er_31, hx0, hx1, hx3⟩ := hy
    subst er_31
    show own_Go p e below T31 (mkF m 87 #[.val (.int p0), .val (.int x0), .val (.int x1), .val (.int x2), .val (.int x3), .val (.int (4 : Int32)), .val (.ref b1), .val (.ref b16), .unset, .unset] [(.int (2 : Int32))]) _
    refine own_st (fun t_ k_ => XS.istore X31.here hx rfl (hb hby at_87) rfl (l' := #[.val (.int p0), .val (.int x0), .val (.int x1), .val (.int x2), .val (.int x3), .val (.int (4 : Int32)), .val (.ref b1), .val (.ref b16), .val (.int (2 : Int32)), .unset]) rfl k_) ?_
    show own_Go p e below T31 (mkF m 89 #[.val (.int p0), .val (.int x0), .val (.int x1), .val (.int x2), .val (.int x3), .val (.int (4 : Int32)), .val (.ref b1), .val (.ref b16), .val (.int (2 : Int32)), .unset] []) _
    refine own_st (fun t_ k_ => XS.iload X31.here hx rfl (hb hby at_89) rfl k_) ?_
    show own_Go p e below T31 (mkF m 91 #[.val (.int p0), .val (.int x0), .val (.int x1), .val (.int x2), .val (.int x3), .val (.int (4 : Int32)), .val (.ref b1), .val (.ref b16), .val (.int (2 : Int32)), .unset] [(.int (2 : Int32))]) _
    refine own_st (fun t_ k_ => XS.ifNo X31.here hx rfl (hb hby at_91) rfl (by decide) k_) ?_
    show own_Go p e below T31 (mkF m 94 #[.val (.int p0), .val (.int x0), .val (.int x1), .val (.int x2), .val (.int x3), .val (.int (4 : Int32)), .val (.ref b1), .val (.ref b16), .val (.int (2 : Int32)), .unset] []) _
    refine own_st (fun t_ k_ => XS.iload X31.here hx rfl (hb hby at_94) rfl k_) ?_
    show own_Go p e below T31 (mkF m 96 #[.val (.int p0), .val (.int x0), .val (.int x1), .val (.int x2), .val (.int x3), .val (.int (4 : Int32)), .val (.ref b1), .val (.ref b16), .val (.int (2 : Int32)), .unset] [(.int (2 : Int32))]) _
    refine own_st (fun t_ k_ => XS.iload X31.here hx rfl (hb hby at_96) rfl k_) ?_
    show own_Go p e below T31 (mkF m 98 #[.val (.int p0), .val (.int x0), .val (.int x1), .val (.int x2), .val (.int x3), .val (.int (4 : Int32)), .val (.ref b1), .val (.ref b16), .val (.int (2 : Int32)), .unset] [(.int (4 : Int32)), (.int (2 : Int32))]) _
    refine own_st (fun t_ k_ => XS.icmpYes X31.here hx rfl (pc0 := 98) (pc' := 103) rfl (hb hby at_98) rfl (by decide) (by decide) (by decide) k_) ?_
    show own_Go p e below T31 (mkF m 103 #[.val (.int p0), .val (.int x0), .val (.int x1), .val (.int x2), .val (.int x3), .val (.int (4 : Int32)), .val (.ref b1), .val (.ref b16), .val (.int (2 : Int32)), .unset] []) _
    refine own_st (fun t_ k_ => XS.aload X31.here hx rfl (hb hby at_103) rfl rfl k_) ?_
    show own_Go p e below T31 (mkF m 105 #[.val (.int p0), .val (.int x0), .val (.int x1), .val (.int x2), .val (.int x3), .val (.int (4 : Int32)), .val (.ref b1), .val (.ref b16), .val (.int (2 : Int32)), .unset] [(.ref b1)]) _
    refine own_st (fun t_ k_ => XS.iload X31.here hx rfl (hb hby at_105) rfl k_) ?_
    show own_Go p e below T31 (mkF m 107 #[.val (.int p0), .val (.int x0), .val (.int x1), .val (.int x2), .val (.int x3), .val (.int (4 : Int32)), .val (.ref b1), .val (.ref b16), .val (.int (2 : Int32)), .unset] [(.int (2 : Int32)), (.ref b1)]) _
    have f44 := (((((V13.ext E16).other W19 (Nat.ne_of_lt (Nat.lt_of_lt_of_le V13.lt (Nat.le_of_eq g16.symm)))).other W22 (Nat.ne_of_lt (Nat.lt_of_lt_of_le V13.lt (Nat.le_of_eq g16.symm)))).other W25 (Nat.ne_of_lt (Nat.lt_of_lt_of_le V13.lt (Nat.le_of_eq g16.symm)))).other W28 (Nat.ne_of_lt (Nat.lt_of_lt_of_le V13.lt (Nat.le_of_eq g16.symm))))
    obtain ⟨cl45, Ar45, q45, Sz45, Nn45, Hh45, Gg45⟩ := id f44
    have hin45 : ¬ ((2 : Int32) < 0 ∨ cl45.slots.size ≤ ((2 : Int32)).toNatClampNeg) := inb_of Sz45 ⟨by decide, by decide⟩
    have hat45 : cl45.slots[((2 : Int32)).toNatClampNeg]? = some (.int x2) := Has.at Hh45 hin45 rfl
    refine own_st (fun t_ k_ => X31.iaload hx (j := (2 : Int32)) (v := (.int x2)) (by rw [eH31]; exact Ar45.1) (State.isArrayOf_alike hZ.alike Ar45.2.1) Ar45.2.2 hin45 hat45 (g := (mkF m 107 #[.val (.int p0), .val (.int x0), .val (.int x1), .val (.int x2), .val (.int x3), .val (.int (4 : Int32)), .val (.ref b1), .val (.ref b16), .val (.int (2 : Int32)), .unset] [(.int (2 : Int32)), (.ref b1)])) rfl rfl (hb hby at_107) _ k_) ?_
    show own_Go p e below T31 (mkF m 108 #[.val (.int p0), .val (.int x0), .val (.int x1), .val (.int x2), .val (.int x3), .val (.int (4 : Int32)), .val (.ref b1), .val (.ref b16), .val (.int (2 : Int32)), .unset] [(.int x2)]) _
    refine own_st (fun t_ k_ => XS.istore X31.here hx rfl (hb hby at_108) rfl (l' := #[.val (.int p0), .val (.int x0), .val (.int x1), .val (.int x2), .val (.int x3), .val (.int (4 : Int32)), .val (.ref b1), .val (.ref b16), .val (.int (2 : Int32)), .val (.int x2)]) rfl k_) ?_
    show own_Go p e below T31 (mkF m 110 #[.val (.int p0), .val (.int x0), .val (.int x1), .val (.int x2), .val (.int x3), .val (.int (4 : Int32)), .val (.ref b1), .val (.ref b16), .val (.int (2 : Int32)), .val (.int x2)] []) _
    refine own_st (fun t_ k_ => XS.aload X31.here hx rfl (hb hby at_110) rfl rfl k_) ?_
    show own_Go p e below T31 (mkF m 112 #[.val (.int p0), .val (.int x0), .val (.int x1), .val (.int x2), .val (.int x3), .val (.int (4 : Int32)), .val (.ref b1), .val (.ref b16), .val (.int (2 : Int32)), .val (.int x2)] [(.ref b1)]) _
    refine own_st (fun t_ k_ => XS.iconst X31.here hx rfl (hb hby at_112) k_) ?_
    show own_Go p e below T31 (mkF m 113 #[.val (.int p0), .val (.int x0), .val (.int x1), .val (.int x2), .val (.int x3), .val (.int (4 : Int32)), .val (.ref b1), .val (.ref b16), .val (.int (2 : Int32)), .val (.int x2)] [(.int (0 : Int32)), (.ref b1)]) _
    refine own_st (fun t_ k_ => XS.iload X31.here hx rfl (hb hby at_113) rfl k_) ?_
    show own_Go p e below T31 (mkF m 115 #[.val (.int p0), .val (.int x0), .val (.int x1), .val (.int x2), .val (.int x3), .val (.int (4 : Int32)), .val (.ref b1), .val (.ref b16), .val (.int (2 : Int32)), .val (.int x2)] [(.int (4 : Int32)), (.int (0 : Int32)), (.ref b1)]) _
    refine own_st (fun t_ k_ => XS.iload X31.here hx rfl (hb hby at_115) rfl k_) ?_
    show own_Go p e below T31 (mkF m 117 #[.val (.int p0), .val (.int x0), .val (.int x1), .val (.int x2), .val (.int x3), .val (.int (4 : Int32)), .val (.ref b1), .val (.ref b16), .val (.int (2 : Int32)), .val (.int x2)] [(.int (2 : Int32)), (.int (4 : Int32)), (.int (0 : Int32)), (.ref b1)]) _
    refine own_st (fun t_ k_ => XS.iload X31.here hx rfl (hb hby at_117) rfl k_) ?_
    show own_Go p e below T31 (mkF m 119 #[.val (.int p0), .val (.int x0), .val (.int x1), .val (.int x2), .val (.int x3), .val (.int (4 : Int32)), .val (.ref b1), .val (.ref b16), .val (.int (2 : Int32)), .val (.int x2)] [(.int x2), (.int (2 : Int32)), (.int (4 : Int32)), (.int (0 : Int32)), (.ref b1)]) _
    obtain ⟨_, _, ⟨T46, L46, k46, n46⟩, -, X46, ⟨Lc46, hQ46, l46, y46, z46⟩, st46⟩ := Jvm.LawKit.callS X31 hx (y := (⟨"com/example/spillback/spillback/behaviour/PlanSelectorHighestPinLaw", "ok", "([IIIII)Z"⟩ : MethodName)) hown (mvT hZ (hw _ (List.mem_of_getElem? (i := 6) rfl))) (mvT hZ (hw _ (List.mem_of_getElem? (i := 7) rfl))) (mvT hZ (hw _ (List.mem_of_getElem? (i := 8) rfl))) (mvT hZ (hw _ (List.mem_of_getElem? (i := 9) rfl))) (by decide) (backOf (W := 0) (rmOk_0_4_2 l Z a0 hw [] b1 k1 _ _ x2 _ h28 n0 f30 f44 hx0) hZ (hw _ (List.mem_of_getElem? (i := 9) rfl)) (hw _ (List.mem_of_getElem? (i := 8) rfl)) (by decide) (by decide)) (g := (mkF m 119 #[.val (.int p0), .val (.int x0), .val (.int x1), .val (.int x2), .val (.int x3), .val (.int (4 : Int32)), .val (.ref b1), .val (.ref b16), .val (.int (2 : Int32)), .val (.int x2)] [(.int x2), (.int (2 : Int32)), (.int (4 : Int32)), (.int (0 : Int32)), (.ref b1)])) rfl (by rw [hml]; rfl) (argsL := [(.ref b1), (.int (0 : Int32)), (.int (4 : Int32)), (.int (2 : Int32)), (.int x2)]) (rest := []) (lenOf pd___IIIII_Z rfl) rfl (by show 2 * 0 + _ ≤ _; exact Nat.le_of_eq rfl) (hb hby at_119) (fun _ _ => ⟨rfl, eH31, (by decide : 2 + 0 ≤ _), (by decide : 8 + 0 ≤ _)⟩)
    dsimp only [Pt.U, Pt.locs, Pt.cells, Pt.slots] at X46 l46 y46 z46 st46 hQ46
    subst l46 y46 z46
    obtain ⟨rfl, Nq46, eH46⟩ := hQ46
    have N46 := Fr.app N31 Nq46
    refine own_st st46 ?_
    show own_Go p e below T46 (mkF m 122 #[.val (.int p0), .val (.int x0), .val (.int x1), .val (.int x2), .val (.int x3), .val (.int (4 : Int32)), .val (.ref b1), .val (.ref b16), .val (.int (2 : Int32)), .val (.int x2)] [(.int (1 : Int32))]) _
    refine own_st (fun t_ k_ => XS.ifNo X46.here hx rfl (hb hby at_122) rfl (by decide) k_) ?_
    show own_Go p e below T46 (mkF m 125 #[.val (.int p0), .val (.int x0), .val (.int x1), .val (.int x2), .val (.int x3), .val (.int (4 : Int32)), .val (.ref b1), .val (.ref b16), .val (.int (2 : Int32)), .val (.int x2)] []) _
    refine own_st (fun t_ k_ => XS.aload X46.here hx rfl (hb hby at_125) rfl rfl k_) ?_
    show own_Go p e below T46 (mkF m 127 #[.val (.int p0), .val (.int x0), .val (.int x1), .val (.int x2), .val (.int x3), .val (.int (4 : Int32)), .val (.ref b1), .val (.ref b16), .val (.int (2 : Int32)), .val (.int x2)] [(.ref b1)]) _
    refine own_st (fun t_ k_ => XS.iconst X46.here hx rfl (hb hby at_127) k_) ?_
    show own_Go p e below T46 (mkF m 128 #[.val (.int p0), .val (.int x0), .val (.int x1), .val (.int x2), .val (.int x3), .val (.int (4 : Int32)), .val (.ref b1), .val (.ref b16), .val (.int (2 : Int32)), .val (.int x2)] [(.int (1 : Int32)), (.ref b1)]) _
    refine own_st (fun t_ k_ => XS.iload X46.here hx rfl (hb hby at_128) rfl k_) ?_
    show own_Go p e below T46 (mkF m 130 #[.val (.int p0), .val (.int x0), .val (.int x1), .val (.int x2), .val (.int x3), .val (.int (4 : Int32)), .val (.ref b1), .val (.ref b16), .val (.int (2 : Int32)), .val (.int x2)] [(.int (4 : Int32)), (.int (1 : Int32)), (.ref b1)]) _
    refine own_st (fun t_ k_ => XS.iload X46.here hx rfl (hb hby at_130) rfl k_) ?_
    show own_Go p e below T46 (mkF m 132 #[.val (.int p0), .val (.int x0), .val (.int x1), .val (.int x2), .val (.int x3), .val (.int (4 : Int32)), .val (.ref b1), .val (.ref b16), .val (.int (2 : Int32)), .val (.int x2)] [(.int (2 : Int32)), (.int (4 : Int32)), (.int (1 : Int32)), (.ref b1)]) _
    refine own_st (fun t_ k_ => XS.iload X46.here hx rfl (hb hby at_132) rfl k_) ?_
    show own_Go p e below T46 (mkF m 134 #[.val (.int p0), .val (.int x0), .val (.int x1), .val (.int x2), .val (.int x3), .val (.int (4 : Int32)), .val (.ref b1), .val (.ref b16), .val (.int (2 : Int32)), .val (.int x2)] [(.int x2), (.int (2 : Int32)), (.int (4 : Int32)), (.int (1 : Int32)), (.ref b1)]) _
    obtain ⟨_, _, ⟨T47, L47, k47, n47⟩, -, X47, ⟨Lc47, hQ47, l47, y47, z47⟩, st47⟩ := Jvm.LawKit.callS X46 hx (y := (⟨"com/example/spillback/spillback/behaviour/PlanSelectorHighestPinLaw", "ok", "([IIIII)Z"⟩ : MethodName)) hown (mvT hZ (hw _ (List.mem_of_getElem? (i := 6) rfl))) (mvT hZ (hw _ (List.mem_of_getElem? (i := 7) rfl))) (mvT hZ (hw _ (List.mem_of_getElem? (i := 8) rfl))) (mvT hZ (hw _ (List.mem_of_getElem? (i := 9) rfl))) (by decide) (backOf (W := 0) (rmOk_1_4_2 l Z a0 hw [] b1 k1 _ _ x2 _ h28 n0 f30 f44 hx1) hZ (hw _ (List.mem_of_getElem? (i := 9) rfl)) (hw _ (List.mem_of_getElem? (i := 8) rfl)) (by decide) (by decide)) (g := (mkF m 134 #[.val (.int p0), .val (.int x0), .val (.int x1), .val (.int x2), .val (.int x3), .val (.int (4 : Int32)), .val (.ref b1), .val (.ref b16), .val (.int (2 : Int32)), .val (.int x2)] [(.int x2), (.int (2 : Int32)), (.int (4 : Int32)), (.int (1 : Int32)), (.ref b1)])) rfl (by rw [hml]; rfl) (argsL := [(.ref b1), (.int (1 : Int32)), (.int (4 : Int32)), (.int (2 : Int32)), (.int x2)]) (rest := []) (lenOf pd___IIIII_Z rfl) rfl (by show 2 * 0 + _ ≤ _; exact Nat.le_of_eq rfl) (hb hby at_134) (fun _ _ => ⟨rfl, eH46, (by decide : 2 + 0 ≤ _), (by decide : 8 + 0 ≤ _)⟩)
    dsimp only [Pt.U, Pt.locs, Pt.cells, Pt.slots] at X47 l47 y47 z47 st47 hQ47
    subst l47 y47 z47
    obtain ⟨rfl, Nq47, eH47⟩ := hQ47
    have N47 := Fr.app N46 Nq47
    refine own_st st47 ?_
    show own_Go p e below T47 (mkF m 137 #[.val (.int p0), .val (.int x0), .val (.int x1), .val (.int x2), .val (.int x3), .val (.int (4 : Int32)), .val (.ref b1), .val (.ref b16), .val (.int (2 : Int32)), .val (.int x2)] [(.int (1 : Int32))]) _
    refine own_st (fun t_ k_ => XS.ifNo X47.here hx rfl (hb hby at_137) rfl (by decide) k_) ?_
    show own_Go p e below T47 (mkF m 140 #[.val (.int p0), .val (.int x0), .val (.int x1), .val (.int x2), .val (.int x3), .val (.int (4 : Int32)), .val (.ref b1), .val (.ref b16), .val (.int (2 : Int32)), .val (.int x2)] []) _
    refine own_st (fun t_ k_ => XS.aload X47.here hx rfl (hb hby at_140) rfl rfl k_) ?_
    show own_Go p e below T47 (mkF m 142 #[.val (.int p0), .val (.int x0), .val (.int x1), .val (.int x2), .val (.int x3), .val (.int (4 : Int32)), .val (.ref b1), .val (.ref b16), .val (.int (2 : Int32)), .val (.int x2)] [(.ref b1)]) _
    refine own_st (fun t_ k_ => XS.iconst X47.here hx rfl (hb hby at_142) k_) ?_
    show own_Go p e below T47 (mkF m 143 #[.val (.int p0), .val (.int x0), .val (.int x1), .val (.int x2), .val (.int x3), .val (.int (4 : Int32)), .val (.ref b1), .val (.ref b16), .val (.int (2 : Int32)), .val (.int x2)] [(.int (2 : Int32)), (.ref b1)]) _
    refine own_st (fun t_ k_ => XS.iload X47.here hx rfl (hb hby at_143) rfl k_) ?_
    show own_Go p e below T47 (mkF m 145 #[.val (.int p0), .val (.int x0), .val (.int x1), .val (.int x2), .val (.int x3), .val (.int (4 : Int32)), .val (.ref b1), .val (.ref b16), .val (.int (2 : Int32)), .val (.int x2)] [(.int (4 : Int32)), (.int (2 : Int32)), (.ref b1)]) _
    refine own_st (fun t_ k_ => XS.iload X47.here hx rfl (hb hby at_145) rfl k_) ?_
    show own_Go p e below T47 (mkF m 147 #[.val (.int p0), .val (.int x0), .val (.int x1), .val (.int x2), .val (.int x3), .val (.int (4 : Int32)), .val (.ref b1), .val (.ref b16), .val (.int (2 : Int32)), .val (.int x2)] [(.int (2 : Int32)), (.int (4 : Int32)), (.int (2 : Int32)), (.ref b1)]) _
    refine own_st (fun t_ k_ => XS.iload X47.here hx rfl (hb hby at_147) rfl k_) ?_
    show own_Go p e below T47 (mkF m 149 #[.val (.int p0), .val (.int x0), .val (.int x1), .val (.int x2), .val (.int x3), .val (.int (4 : Int32)), .val (.ref b1), .val (.ref b16), .val (.int (2 : Int32)), .val (.int x2)] [(.int x2), (.int (2 : Int32)), (.int (4 : Int32)), (.int (2 : Int32)), (.ref b1)]) _
    obtain ⟨_, _, ⟨T48, L48, k48, n48⟩, -, X48, ⟨Lc48, hQ48, l48, y48, z48⟩, st48⟩ := Jvm.LawKit.callS X47 hx (y := (⟨"com/example/spillback/spillback/behaviour/PlanSelectorHighestPinLaw", "ok", "([IIIII)Z"⟩ : MethodName)) hown (mvT hZ (hw _ (List.mem_of_getElem? (i := 6) rfl))) (mvT hZ (hw _ (List.mem_of_getElem? (i := 7) rfl))) (mvT hZ (hw _ (List.mem_of_getElem? (i := 8) rfl))) (mvT hZ (hw _ (List.mem_of_getElem? (i := 9) rfl))) (by decide) (backOf (W := 0) (rmOk_2_4_2 l Z a0 hw [] b1 k1 _ _ x2 _ h28 n0 f30 f44) hZ (hw _ (List.mem_of_getElem? (i := 9) rfl)) (hw _ (List.mem_of_getElem? (i := 8) rfl)) (by decide) (by decide)) (g := (mkF m 149 #[.val (.int p0), .val (.int x0), .val (.int x1), .val (.int x2), .val (.int x3), .val (.int (4 : Int32)), .val (.ref b1), .val (.ref b16), .val (.int (2 : Int32)), .val (.int x2)] [(.int x2), (.int (2 : Int32)), (.int (4 : Int32)), (.int (2 : Int32)), (.ref b1)])) rfl (by rw [hml]; rfl) (argsL := [(.ref b1), (.int (2 : Int32)), (.int (4 : Int32)), (.int (2 : Int32)), (.int x2)]) (rest := []) (lenOf pd___IIIII_Z rfl) rfl (by show 2 * 0 + _ ≤ _; exact Nat.le_of_eq rfl) (hb hby at_149) (fun _ _ => ⟨rfl, eH47, (by decide : 2 + 0 ≤ _), (by decide : 8 + 0 ≤ _)⟩)
    dsimp only [Pt.U, Pt.locs, Pt.cells, Pt.slots] at X48 l48 y48 z48 st48 hQ48
    subst l48 y48 z48
    obtain ⟨rfl, Nq48, eH48⟩ := hQ48
    have N48 := Fr.app N47 Nq48
    refine own_st st48 ?_
    show own_Go p e below T48 (mkF m 152 #[.val (.int p0), .val (.int x0), .val (.int x1), .val (.int x2), .val (.int x3), .val (.int (4 : Int32)), .val (.ref b1), .val (.ref b16), .val (.int (2 : Int32)), .val (.int x2)] [(.int (1 : Int32))]) _
    refine own_st (fun t_ k_ => XS.ifNo X48.here hx rfl (hb hby at_152) rfl (by decide) k_) ?_
    show own_Go p e below T48 (mkF m 155 #[.val (.int p0), .val (.int x0), .val (.int x1), .val (.int x2), .val (.int x3), .val (.int (4 : Int32)), .val (.ref b1), .val (.ref b16), .val (.int (2 : Int32)), .val (.int x2)] []) _
    refine own_st (fun t_ k_ => XS.aload X48.here hx rfl (hb hby at_155) rfl rfl k_) ?_
    show own_Go p e below T48 (mkF m 157 #[.val (.int p0), .val (.int x0), .val (.int x1), .val (.int x2), .val (.int x3), .val (.int (4 : Int32)), .val (.ref b1), .val (.ref b16), .val (.int (2 : Int32)), .val (.int x2)] [(.ref b1)]) _
    refine own_st (fun t_ k_ => XS.iconst X48.here hx rfl (hb hby at_157) k_) ?_
    show own_Go p e below T48 (mkF m 158 #[.val (.int p0), .val (.int x0), .val (.int x1), .val (.int x2), .val (.int x3), .val (.int (4 : Int32)), .val (.ref b1), .val (.ref b16), .val (.int (2 : Int32)), .val (.int x2)] [(.int (3 : Int32)), (.ref b1)]) _
    refine own_st (fun t_ k_ => XS.iload X48.here hx rfl (hb hby at_158) rfl k_) ?_
    show own_Go p e below T48 (mkF m 160 #[.val (.int p0), .val (.int x0), .val (.int x1), .val (.int x2), .val (.int x3), .val (.int (4 : Int32)), .val (.ref b1), .val (.ref b16), .val (.int (2 : Int32)), .val (.int x2)] [(.int (4 : Int32)), (.int (3 : Int32)), (.ref b1)]) _
    refine own_st (fun t_ k_ => XS.iload X48.here hx rfl (hb hby at_160) rfl k_) ?_
    show own_Go p e below T48 (mkF m 162 #[.val (.int p0), .val (.int x0), .val (.int x1), .val (.int x2), .val (.int x3), .val (.int (4 : Int32)), .val (.ref b1), .val (.ref b16), .val (.int (2 : Int32)), .val (.int x2)] [(.int (2 : Int32)), (.int (4 : Int32)), (.int (3 : Int32)), (.ref b1)]) _
    refine own_st (fun t_ k_ => XS.iload X48.here hx rfl (hb hby at_162) rfl k_) ?_
    show own_Go p e below T48 (mkF m 164 #[.val (.int p0), .val (.int x0), .val (.int x1), .val (.int x2), .val (.int x3), .val (.int (4 : Int32)), .val (.ref b1), .val (.ref b16), .val (.int (2 : Int32)), .val (.int x2)] [(.int x2), (.int (2 : Int32)), (.int (4 : Int32)), (.int (3 : Int32)), (.ref b1)]) _
    obtain ⟨_, _, ⟨T49, L49, k49, n49⟩, -, X49, ⟨Lc49, hQ49, l49, y49, z49⟩, st49⟩ := Jvm.LawKit.callS X48 hx (y := (⟨"com/example/spillback/spillback/behaviour/PlanSelectorHighestPinLaw", "ok", "([IIIII)Z"⟩ : MethodName)) hown (mvT hZ (hw _ (List.mem_of_getElem? (i := 6) rfl))) (mvT hZ (hw _ (List.mem_of_getElem? (i := 7) rfl))) (mvT hZ (hw _ (List.mem_of_getElem? (i := 8) rfl))) (mvT hZ (hw _ (List.mem_of_getElem? (i := 9) rfl))) (by decide) (backOf (W := 0) (rmOk_3_4_2 l Z a0 hw [] b1 k1 _ _ x2 _ h28 n0 f30 f44 hx3) hZ (hw _ (List.mem_of_getElem? (i := 9) rfl)) (hw _ (List.mem_of_getElem? (i := 8) rfl)) (by decide) (by decide)) (g := (mkF m 164 #[.val (.int p0), .val (.int x0), .val (.int x1), .val (.int x2), .val (.int x3), .val (.int (4 : Int32)), .val (.ref b1), .val (.ref b16), .val (.int (2 : Int32)), .val (.int x2)] [(.int x2), (.int (2 : Int32)), (.int (4 : Int32)), (.int (3 : Int32)), (.ref b1)])) rfl (by rw [hml]; rfl) (argsL := [(.ref b1), (.int (3 : Int32)), (.int (4 : Int32)), (.int (2 : Int32)), (.int x2)]) (rest := []) (lenOf pd___IIIII_Z rfl) rfl (by show 2 * 0 + _ ≤ _; exact Nat.le_of_eq rfl) (hb hby at_164) (fun _ _ => ⟨rfl, eH48, (by decide : 2 + 0 ≤ _), (by decide : 8 + 0 ≤ _)⟩)
    dsimp only [Pt.U, Pt.locs, Pt.cells, Pt.slots] at X49 l49 y49 z49 st49 hQ49
    subst l49 y49 z49
    obtain ⟨rfl, Nq49, eH49⟩ := hQ49
    have N49 := Fr.app N48 Nq49
    refine own_st st49 ?_
    show own_Go p e below T49 (mkF m 167 #[.val (.int p0), .val (.int x0), .val (.int x1), .val (.int x2), .val (.int x3), .val (.int (4 : Int32)), .val (.ref b1), .val (.ref b16), .val (.int (2 : Int32)), .val (.int x2)] [(.int (1 : Int32))]) _
    refine own_st (fun t_ k_ => XS.ifNo X49.here hx rfl (hb hby at_167) rfl (by decide) k_) ?_
    show own_Go p e below T49 (mkF m 170 #[.val (.int p0), .val (.int x0), .val (.int x1), .val (.int x2), .val (.int x3), .val (.int (4 : Int32)), .val (.ref b1), .val (.ref b16), .val (.int (2 : Int32)), .val (.int x2)] []) _
    refine own_st (fun t_ k_ => XS.iconst X49.here hx rfl (hb hby at_170) k_) ?_
    show own_Go p e below T49 (mkF m 171 #[.val (.int p0), .val (.int x0), .val (.int x1), .val (.int x2), .val (.int x3), .val (.int (4 : Int32)), .val (.ref b1), .val (.ref b16), .val (.int (2 : Int32)), .val (.int x2)] [(.int (1 : Int32))]) _
    refine own_st (fun t_ k_ => XS.goto X49.here hx rfl (pc0 := 171) (pc' := 175) rfl (hb hby at_171) (by decide) (by decide) k_) ?_
    show own_Go p e below T49 (mkF m 175 #[.val (.int p0), .val (.int x0), .val (.int x1), .val (.int x2), .val (.int x3), .val (.int (4 : Int32)), .val (.ref b1), .val (.ref b16), .val (.int (2 : Int32)), .val (.int x2)] [(.int (1 : Int32))]) _
    obtain ⟨fs, hr, hrun, hended, hW, hsame⟩ := X49.leave (v := some (.int (1 : Int32))) (fun h => by rw [Bd.returns] at h; cases h)
    refine own_fin (retN X49 hx (t := .boolean) Bd.returns (by simp) (hb hby at_175) hr) ⟨hrun, hended, _, _, rfl, ?_, ⟨_, rfl⟩, hW, hsame.mono (by decide) (by decide)⟩
    show Q_rmLaw4 Z p0 x0 x1 x2 x3 h0 n0 _ T49.heap _
    rw [eH49]
    exact ⟨rfl, N49, K29⟩
  · skip
    obtain ⟨er_31, hx0, hx1, hx2⟩ := hy
    subst er_31
    show own_Go p e below T31 (mkF m 87 #[.val (.int p0), .val (.int x0), .val (.int x1), .val (.int x2), .val (.int x3), .val (.int (4 : Int32)), .val (.ref b1), .val (.ref b16), .unset, .unset] [(.int (3 : Int32))]) _
    refine own_st (fun t_ k_ => XS.istore X31.here hx rfl (hb hby at_87) rfl (l' := #[.val (.int p0), .val (.int x0), .val (.int x1), .val (.int x2), .val (.int x3), .val (.int (4 : Int32)), .val (.ref b1), .val (.ref b16), .val (.int (3 : Int32)), .unset]) rfl k_) ?_
    show own_Go p e below T31 (mkF m 89 #[.val (.int p0), .val (.int x0), .val (.int x1), .val (.int x2), .val (.int x3), .val (.int (4 : Int32)), .val (.ref b1), .val (.ref b16), .val (.int (3 : Int32)), .unset] []) _
    refine own_st (fun t_ k_ => XS.iload X31.here hx rfl (hb hby at_89) rfl k_) ?_
    show own_Go p e below T31 (mkF m 91 #[.val (.int p0), .val (.int x0), .val (.int x1), .val (.int x2), .val (.int x3), .val (.int (4 : Int32)), .val (.ref b1), .val (.ref b16), .val (.int (3 : Int32)), .unset] [(.int (3 : Int32))]) _
    refine own_st (fun t_ k_ => XS.ifNo X31.here hx rfl (hb hby at_91) rfl (by decide) k_) ?_
    show own_Go p e below T31 (mkF m 94 #[.val (.int p0), .val (.int x0), .val (.int x1), .val (.int x2), .val (.int x3), .val (.int (4 : Int32)), .val (.ref b1), .val (.ref b16), .val (.int (3 : Int32)), .unset] []) _
    refine own_st (fun t_ k_ => XS.iload X31.here hx rfl (hb hby at_94) rfl k_) ?_
    show own_Go p e below T31 (mkF m 96 #[.val (.int p0), .val (.int x0), .val (.int x1), .val (.int x2), .val (.int x3), .val (.int (4 : Int32)), .val (.ref b1), .val (.ref b16), .val (.int (3 : Int32)), .unset] [(.int (3 : Int32))]) _
    refine own_st (fun t_ k_ => XS.iload X31.here hx rfl (hb hby at_96) rfl k_) ?_
    show own_Go p e below T31 (mkF m 98 #[.val (.int p0), .val (.int x0), .val (.int x1), .val (.int x2), .val (.int x3), .val (.int (4 : Int32)), .val (.ref b1), .val (.ref b16), .val (.int (3 : Int32)), .unset] [(.int (4 : Int32)), (.int (3 : Int32))]) _
    refine own_st (fun t_ k_ => XS.icmpYes X31.here hx rfl (pc0 := 98) (pc' := 103) rfl (hb hby at_98) rfl (by decide) (by decide) (by decide) k_) ?_
    show own_Go p e below T31 (mkF m 103 #[.val (.int p0), .val (.int x0), .val (.int x1), .val (.int x2), .val (.int x3), .val (.int (4 : Int32)), .val (.ref b1), .val (.ref b16), .val (.int (3 : Int32)), .unset] []) _
    refine own_st (fun t_ k_ => XS.aload X31.here hx rfl (hb hby at_103) rfl rfl k_) ?_
    show own_Go p e below T31 (mkF m 105 #[.val (.int p0), .val (.int x0), .val (.int x1), .val (.int x2), .val (.int x3), .val (.int (4 : Int32)), .val (.ref b1), .val (.ref b16), .val (.int (3 : Int32)), .unset] [(.ref b1)]) _
    refine own_st (fun t_ k_ => XS.iload X31.here hx rfl (hb hby at_105) rfl k_) ?_
    show own_Go p e below T31 (mkF m 107 #[.val (.int p0), .val (.int x0), .val (.int x1), .val (.int x2), .val (.int x3), .val (.int (4 : Int32)), .val (.ref b1), .val (.ref b16), .val (.int (3 : Int32)), .unset] [(.int (3 : Int32)), (.ref b1)]) _
    have f50 := (((((V13.ext E16).other W19 (Nat.ne_of_lt (Nat.lt_of_lt_of_le V13.lt (Nat.le_of_eq g16.symm)))).other W22 (Nat.ne_of_lt (Nat.lt_of_lt_of_le V13.lt (Nat.le_of_eq g16.symm)))).other W25 (Nat.ne_of_lt (Nat.lt_of_lt_of_le V13.lt (Nat.le_of_eq g16.symm)))).other W28 (Nat.ne_of_lt (Nat.lt_of_lt_of_le V13.lt (Nat.le_of_eq g16.symm))))
    obtain ⟨cl51, Ar51, q51, Sz51, Nn51, Hh51, Gg51⟩ := id f50
    have hin51 : ¬ ((3 : Int32) < 0 ∨ cl51.slots.size ≤ ((3 : Int32)).toNatClampNeg) := inb_of Sz51 ⟨by decide, by decide⟩
    have hat51 : cl51.slots[((3 : Int32)).toNatClampNeg]? = some (.int x3) := Has.at Hh51 hin51 rfl
    refine own_st (fun t_ k_ => X31.iaload hx (j := (3 : Int32)) (v := (.int x3)) (by rw [eH31]; exact Ar51.1) (State.isArrayOf_alike hZ.alike Ar51.2.1) Ar51.2.2 hin51 hat51 (g := (mkF m 107 #[.val (.int p0), .val (.int x0), .val (.int x1), .val (.int x2), .val (.int x3), .val (.int (4 : Int32)), .val (.ref b1), .val (.ref b16), .val (.int (3 : Int32)), .unset] [(.int (3 : Int32)), (.ref b1)])) rfl rfl (hb hby at_107) _ k_) ?_
    show own_Go p e below T31 (mkF m 108 #[.val (.int p0), .val (.int x0), .val (.int x1), .val (.int x2), .val (.int x3), .val (.int (4 : Int32)), .val (.ref b1), .val (.ref b16), .val (.int (3 : Int32)), .unset] [(.int x3)]) _
    refine own_st (fun t_ k_ => XS.istore X31.here hx rfl (hb hby at_108) rfl (l' := #[.val (.int p0), .val (.int x0), .val (.int x1), .val (.int x2), .val (.int x3), .val (.int (4 : Int32)), .val (.ref b1), .val (.ref b16), .val (.int (3 : Int32)), .val (.int x3)]) rfl k_) ?_
    show own_Go p e below T31 (mkF m 110 #[.val (.int p0), .val (.int x0), .val (.int x1), .val (.int x2), .val (.int x3), .val (.int (4 : Int32)), .val (.ref b1), .val (.ref b16), .val (.int (3 : Int32)), .val (.int x3)] []) _
    refine own_st (fun t_ k_ => XS.aload X31.here hx rfl (hb hby at_110) rfl rfl k_) ?_
    show own_Go p e below T31 (mkF m 112 #[.val (.int p0), .val (.int x0), .val (.int x1), .val (.int x2), .val (.int x3), .val (.int (4 : Int32)), .val (.ref b1), .val (.ref b16), .val (.int (3 : Int32)), .val (.int x3)] [(.ref b1)]) _
    refine own_st (fun t_ k_ => XS.iconst X31.here hx rfl (hb hby at_112) k_) ?_
    show own_Go p e below T31 (mkF m 113 #[.val (.int p0), .val (.int x0), .val (.int x1), .val (.int x2), .val (.int x3), .val (.int (4 : Int32)), .val (.ref b1), .val (.ref b16), .val (.int (3 : Int32)), .val (.int x3)] [(.int (0 : Int32)), (.ref b1)]) _
    refine own_st (fun t_ k_ => XS.iload X31.here hx rfl (hb hby at_113) rfl k_) ?_
    show own_Go p e below T31 (mkF m 115 #[.val (.int p0), .val (.int x0), .val (.int x1), .val (.int x2), .val (.int x3), .val (.int (4 : Int32)), .val (.ref b1), .val (.ref b16), .val (.int (3 : Int32)), .val (.int x3)] [(.int (4 : Int32)), (.int (0 : Int32)), (.ref b1)]) _
    refine own_st (fun t_ k_ => XS.iload X31.here hx rfl (hb hby at_115) rfl k_) ?_
    show own_Go p e below T31 (mkF m 117 #[.val (.int p0), .val (.int x0), .val (.int x1), .val (.int x2), .val (.int x3), .val (.int (4 : Int32)), .val (.ref b1), .val (.ref b16), .val (.int (3 : Int32)), .val (.int x3)] [(.int (3 : Int32)), (.int (4 : Int32)), (.int (0 : Int32)), (.ref b1)]) _
    refine own_st (fun t_ k_ => XS.iload X31.here hx rfl (hb hby at_117) rfl k_) ?_
    show own_Go p e below T31 (mkF m 119 #[.val (.int p0), .val (.int x0), .val (.int x1), .val (.int x2), .val (.int x3), .val (.int (4 : Int32)), .val (.ref b1), .val (.ref b16), .val (.int (3 : Int32)), .val (.int x3)] [(.int x3), (.int (3 : Int32)), (.int (4 : Int32)), (.int (0 : Int32)), (.ref b1)]) _
    obtain ⟨_, _, ⟨T52, L52, k52, n52⟩, -, X52, ⟨Lc52, hQ52, l52, y52, z52⟩, st52⟩ := Jvm.LawKit.callS X31 hx (y := (⟨"com/example/spillback/spillback/behaviour/PlanSelectorHighestPinLaw", "ok", "([IIIII)Z"⟩ : MethodName)) hown (mvT hZ (hw _ (List.mem_of_getElem? (i := 6) rfl))) (mvT hZ (hw _ (List.mem_of_getElem? (i := 7) rfl))) (mvT hZ (hw _ (List.mem_of_getElem? (i := 8) rfl))) (mvT hZ (hw _ (List.mem_of_getElem? (i := 9) rfl))) (by decide) (backOf (W := 0) (rmOk_0_4_3 l Z a0 hw [] b1 k1 _ _ _ x3 h28 n0 f30 f50 hx0) hZ (hw _ (List.mem_of_getElem? (i := 9) rfl)) (hw _ (List.mem_of_getElem? (i := 8) rfl)) (by decide) (by decide)) (g := (mkF m 119 #[.val (.int p0), .val (.int x0), .val (.int x1), .val (.int x2), .val (.int x3), .val (.int (4 : Int32)), .val (.ref b1), .val (.ref b16), .val (.int (3 : Int32)), .val (.int x3)] [(.int x3), (.int (3 : Int32)), (.int (4 : Int32)), (.int (0 : Int32)), (.ref b1)])) rfl (by rw [hml]; rfl) (argsL := [(.ref b1), (.int (0 : Int32)), (.int (4 : Int32)), (.int (3 : Int32)), (.int x3)]) (rest := []) (lenOf pd___IIIII_Z rfl) rfl (by show 2 * 0 + _ ≤ _; exact Nat.le_of_eq rfl) (hb hby at_119) (fun _ _ => ⟨rfl, eH31, (by decide : 2 + 0 ≤ _), (by decide : 8 + 0 ≤ _)⟩)
    dsimp only [Pt.U, Pt.locs, Pt.cells, Pt.slots] at X52 l52 y52 z52 st52 hQ52
    subst l52 y52 z52
    obtain ⟨rfl, Nq52, eH52⟩ := hQ52
    have N52 := Fr.app N31 Nq52
    refine own_st st52 ?_
    show own_Go p e below T52 (mkF m 122 #[.val (.int p0), .val (.int x0), .val (.int x1), .val (.int x2), .val (.int x3), .val (.int (4 : Int32)), .val (.ref b1), .val (.ref b16), .val (.int (3 : Int32)), .val (.int x3)] [(.int (1 : Int32))]) _
    refine own_st (fun t_ k_ => XS.ifNo X52.here hx rfl (hb hby at_122) rfl (by decide) k_) ?_
    show own_Go p e below T52 (mkF m 125 #[.val (.int p0), .val (.int x0), .val (.int x1), .val (.int x2), .val (.int x3), .val (.int (4 : Int32)), .val (.ref b1), .val (.ref b16), .val (.int (3 : Int32)), .val (.int x3)] []) _
    refine own_st (fun t_ k_ => XS.aload X52.here hx rfl (hb hby at_125) rfl rfl k_) ?_
    show own_Go p e below T52 (mkF m 127 #[.val (.int p0), .val (.int x0), .val (.int x1), .val (.int x2), .val (.int x3), .val (.int (4 : Int32)), .val (.ref b1), .val (.ref b16), .val (.int (3 : Int32)), .val (.int x3)] [(.ref b1)]) _
    refine own_st (fun t_ k_ => XS.iconst X52.here hx rfl (hb hby at_127) k_) ?_
    show own_Go p e below T52 (mkF m 128 #[.val (.int p0), .val (.int x0), .val (.int x1), .val (.int x2), .val (.int x3), .val (.int (4 : Int32)), .val (.ref b1), .val (.ref b16), .val (.int (3 : Int32)), .val (.int x3)] [(.int (1 : Int32)), (.ref b1)]) _
    refine own_st (fun t_ k_ => XS.iload X52.here hx rfl (hb hby at_128) rfl k_) ?_
    show own_Go p e below T52 (mkF m 130 #[.val (.int p0), .val (.int x0), .val (.int x1), .val (.int x2), .val (.int x3), .val (.int (4 : Int32)), .val (.ref b1), .val (.ref b16), .val (.int (3 : Int32)), .val (.int x3)] [(.int (4 : Int32)), (.int (1 : Int32)), (.ref b1)]) _
    refine own_st (fun t_ k_ => XS.iload X52.here hx rfl (hb hby at_130) rfl k_) ?_
    show own_Go p e below T52 (mkF m 132 #[.val (.int p0), .val (.int x0), .val (.int x1), .val (.int x2), .val (.int x3), .val (.int (4 : Int32)), .val (.ref b1), .val (.ref b16), .val (.int (3 : Int32)), .val (.int x3)] [(.int (3 : Int32)), (.int (4 : Int32)), (.int (1 : Int32)), (.ref b1)]) _
    refine own_st (fun t_ k_ => XS.iload X52.here hx rfl (hb hby at_132) rfl k_) ?_
    show own_Go p e below T52 (mkF m 134 #[.val (.int p0), .val (.int x0), .val (.int x1), .val (.int x2), .val (.int x3), .val (.int (4 : Int32)), .val (.ref b1), .val (.ref b16), .val (.int (3 : Int32)), .val (.int x3)] [(.int x3), (.int (3 : Int32)), (.int (4 : Int32)), (.int (1 : Int32)), (.ref b1)]) _
    obtain ⟨_, _, ⟨T53, L53, k53, n53⟩, -, X53, ⟨Lc53, hQ53, l53, y53, z53⟩, st53⟩ := Jvm.LawKit.callS X52 hx (y := (⟨"com/example/spillback/spillback/behaviour/PlanSelectorHighestPinLaw", "ok", "([IIIII)Z"⟩ : MethodName)) hown (mvT hZ (hw _ (List.mem_of_getElem? (i := 6) rfl))) (mvT hZ (hw _ (List.mem_of_getElem? (i := 7) rfl))) (mvT hZ (hw _ (List.mem_of_getElem? (i := 8) rfl))) (mvT hZ (hw _ (List.mem_of_getElem? (i := 9) rfl))) (by decide) (backOf (W := 0) (rmOk_1_4_3 l Z a0 hw [] b1 k1 _ _ _ x3 h28 n0 f30 f50 hx1) hZ (hw _ (List.mem_of_getElem? (i := 9) rfl)) (hw _ (List.mem_of_getElem? (i := 8) rfl)) (by decide) (by decide)) (g := (mkF m 134 #[.val (.int p0), .val (.int x0), .val (.int x1), .val (.int x2), .val (.int x3), .val (.int (4 : Int32)), .val (.ref b1), .val (.ref b16), .val (.int (3 : Int32)), .val (.int x3)] [(.int x3), (.int (3 : Int32)), (.int (4 : Int32)), (.int (1 : Int32)), (.ref b1)])) rfl (by rw [hml]; rfl) (argsL := [(.ref b1), (.int (1 : Int32)), (.int (4 : Int32)), (.int (3 : Int32)), (.int x3)]) (rest := []) (lenOf pd___IIIII_Z rfl) rfl (by show 2 * 0 + _ ≤ _; exact Nat.le_of_eq rfl) (hb hby at_134) (fun _ _ => ⟨rfl, eH52, (by decide : 2 + 0 ≤ _), (by decide : 8 + 0 ≤ _)⟩)
    dsimp only [Pt.U, Pt.locs, Pt.cells, Pt.slots] at X53 l53 y53 z53 st53 hQ53
    subst l53 y53 z53
    obtain ⟨rfl, Nq53, eH53⟩ := hQ53
    have N53 := Fr.app N52 Nq53
    refine own_st st53 ?_
    show own_Go p e below T53 (mkF m 137 #[.val (.int p0), .val (.int x0), .val (.int x1), .val (.int x2), .val (.int x3), .val (.int (4 : Int32)), .val (.ref b1), .val (.ref b16), .val (.int (3 : Int32)), .val (.int x3)] [(.int (1 : Int32))]) _
    refine own_st (fun t_ k_ => XS.ifNo X53.here hx rfl (hb hby at_137) rfl (by decide) k_) ?_
    show own_Go p e below T53 (mkF m 140 #[.val (.int p0), .val (.int x0), .val (.int x1), .val (.int x2), .val (.int x3), .val (.int (4 : Int32)), .val (.ref b1), .val (.ref b16), .val (.int (3 : Int32)), .val (.int x3)] []) _
    refine own_st (fun t_ k_ => XS.aload X53.here hx rfl (hb hby at_140) rfl rfl k_) ?_
    show own_Go p e below T53 (mkF m 142 #[.val (.int p0), .val (.int x0), .val (.int x1), .val (.int x2), .val (.int x3), .val (.int (4 : Int32)), .val (.ref b1), .val (.ref b16), .val (.int (3 : Int32)), .val (.int x3)] [(.ref b1)]) _
    refine own_st (fun t_ k_ => XS.iconst X53.here hx rfl (hb hby at_142) k_) ?_
    show own_Go p e below T53 (mkF m 143 #[.val (.int p0), .val (.int x0), .val (.int x1), .val (.int x2), .val (.int x3), .val (.int (4 : Int32)), .val (.ref b1), .val (.ref b16), .val (.int (3 : Int32)), .val (.int x3)] [(.int (2 : Int32)), (.ref b1)]) _
    refine own_st (fun t_ k_ => XS.iload X53.here hx rfl (hb hby at_143) rfl k_) ?_
    show own_Go p e below T53 (mkF m 145 #[.val (.int p0), .val (.int x0), .val (.int x1), .val (.int x2), .val (.int x3), .val (.int (4 : Int32)), .val (.ref b1), .val (.ref b16), .val (.int (3 : Int32)), .val (.int x3)] [(.int (4 : Int32)), (.int (2 : Int32)), (.ref b1)]) _
    refine own_st (fun t_ k_ => XS.iload X53.here hx rfl (hb hby at_145) rfl k_) ?_
    show own_Go p e below T53 (mkF m 147 #[.val (.int p0), .val (.int x0), .val (.int x1), .val (.int x2), .val (.int x3), .val (.int (4 : Int32)), .val (.ref b1), .val (.ref b16), .val (.int (3 : Int32)), .val (.int x3)] [(.int (3 : Int32)), (.int (4 : Int32)), (.int (2 : Int32)), (.ref b1)]) _
    refine own_st (fun t_ k_ => XS.iload X53.here hx rfl (hb hby at_147) rfl k_) ?_
    show own_Go p e below T53 (mkF m 149 #[.val (.int p0), .val (.int x0), .val (.int x1), .val (.int x2), .val (.int x3), .val (.int (4 : Int32)), .val (.ref b1), .val (.ref b16), .val (.int (3 : Int32)), .val (.int x3)] [(.int x3), (.int (3 : Int32)), (.int (4 : Int32)), (.int (2 : Int32)), (.ref b1)]) _
    obtain ⟨_, _, ⟨T54, L54, k54, n54⟩, -, X54, ⟨Lc54, hQ54, l54, y54, z54⟩, st54⟩ := Jvm.LawKit.callS X53 hx (y := (⟨"com/example/spillback/spillback/behaviour/PlanSelectorHighestPinLaw", "ok", "([IIIII)Z"⟩ : MethodName)) hown (mvT hZ (hw _ (List.mem_of_getElem? (i := 6) rfl))) (mvT hZ (hw _ (List.mem_of_getElem? (i := 7) rfl))) (mvT hZ (hw _ (List.mem_of_getElem? (i := 8) rfl))) (mvT hZ (hw _ (List.mem_of_getElem? (i := 9) rfl))) (by decide) (backOf (W := 0) (rmOk_2_4_3 l Z a0 hw [] b1 k1 _ _ _ x3 h28 n0 f30 f50 hx2) hZ (hw _ (List.mem_of_getElem? (i := 9) rfl)) (hw _ (List.mem_of_getElem? (i := 8) rfl)) (by decide) (by decide)) (g := (mkF m 149 #[.val (.int p0), .val (.int x0), .val (.int x1), .val (.int x2), .val (.int x3), .val (.int (4 : Int32)), .val (.ref b1), .val (.ref b16), .val (.int (3 : Int32)), .val (.int x3)] [(.int x3), (.int (3 : Int32)), (.int (4 : Int32)), (.int (2 : Int32)), (.ref b1)])) rfl (by rw [hml]; rfl) (argsL := [(.ref b1), (.int (2 : Int32)), (.int (4 : Int32)), (.int (3 : Int32)), (.int x3)]) (rest := []) (lenOf pd___IIIII_Z rfl) rfl (by show 2 * 0 + _ ≤ _; exact Nat.le_of_eq rfl) (hb hby at_149) (fun _ _ => ⟨rfl, eH53, (by decide : 2 + 0 ≤ _), (by decide : 8 + 0 ≤ _)⟩)
    dsimp only [Pt.U, Pt.locs, Pt.cells, Pt.slots] at X54 l54 y54 z54 st54 hQ54
    subst l54 y54 z54
    obtain ⟨rfl, Nq54, eH54⟩ := hQ54
    have N54 := Fr.app N53 Nq54
    refine own_st st54 ?_
    show own_Go p e below T54 (mkF m 152 #[.val (.int p0), .val (.int x0), .val (.int x1), .val (.int x2), .val (.int x3), .val (.int (4 : Int32)), .val (.ref b1), .val (.ref b16), .val (.int (3 : Int32)), .val (.int x3)] [(.int (1 : Int32))]) _
    refine own_st (fun t_ k_ => XS.ifNo X54.here hx rfl (hb hby at_152) rfl (by decide) k_) ?_
    show own_Go p e below T54 (mkF m 155 #[.val (.int p0), .val (.int x0), .val (.int x1), .val (.int x2), .val (.int x3), .val (.int (4 : Int32)), .val (.ref b1), .val (.ref b16), .val (.int (3 : Int32)), .val (.int x3)] []) _
    refine own_st (fun t_ k_ => XS.aload X54.here hx rfl (hb hby at_155) rfl rfl k_) ?_
    show own_Go p e below T54 (mkF m 157 #[.val (.int p0), .val (.int x0), .val (.int x1), .val (.int x2), .val (.int x3), .val (.int (4 : Int32)), .val (.ref b1), .val (.ref b16), .val (.int (3 : Int32)), .val (.int x3)] [(.ref b1)]) _
    refine own_st (fun t_ k_ => XS.iconst X54.here hx rfl (hb hby at_157) k_) ?_
    show own_Go p e below T54 (mkF m 158 #[.val (.int p0), .val (.int x0), .val (.int x1), .val (.int x2), .val (.int x3), .val (.int (4 : Int32)), .val (.ref b1), .val (.ref b16), .val (.int (3 : Int32)), .val (.int x3)] [(.int (3 : Int32)), (.ref b1)]) _
    refine own_st (fun t_ k_ => XS.iload X54.here hx rfl (hb hby at_158) rfl k_) ?_
    show own_Go p e below T54 (mkF m 160 #[.val (.int p0), .val (.int x0), .val (.int x1), .val (.int x2), .val (.int x3), .val (.int (4 : Int32)), .val (.ref b1), .val (.ref b16), .val (.int (3 : Int32)), .val (.int x3)] [(.int (4 : Int32)), (.int (3 : Int32)), (.ref b1)]) _
    refine own_st (fun t_ k_ => XS.iload X54.here hx rfl (hb hby at_160) rfl k_) ?_
    show own_Go p e below T54 (mkF m 162 #[.val (.int p0), .val (.int x0), .val (.int x1), .val (.int x2), .val (.int x3), .val (.int (4 : Int32)), .val (.ref b1), .val (.ref b16), .val (.int (3 : Int32)), .val (.int x3)] [(.int (3 : Int32)), (.int (4 : Int32)), (.int (3 : Int32)), (.ref b1)]) _
    refine own_st (fun t_ k_ => XS.iload X54.here hx rfl (hb hby at_162) rfl k_) ?_
    show own_Go p e below T54 (mkF m 164 #[.val (.int p0), .val (.int x0), .val (.int x1), .val (.int x2), .val (.int x3), .val (.int (4 : Int32)), .val (.ref b1), .val (.ref b16), .val (.int (3 : Int32)), .val (.int x3)] [(.int x3), (.int (3 : Int32)), (.int (4 : Int32)), (.int (3 : Int32)), (.ref b1)]) _
    obtain ⟨_, _, ⟨T55, L55, k55, n55⟩, -, X55, ⟨Lc55, hQ55, l55, y55, z55⟩, st55⟩ := Jvm.LawKit.callS X54 hx (y := (⟨"com/example/spillback/spillback/behaviour/PlanSelectorHighestPinLaw", "ok", "([IIIII)Z"⟩ : MethodName)) hown (mvT hZ (hw _ (List.mem_of_getElem? (i := 6) rfl))) (mvT hZ (hw _ (List.mem_of_getElem? (i := 7) rfl))) (mvT hZ (hw _ (List.mem_of_getElem? (i := 8) rfl))) (mvT hZ (hw _ (List.mem_of_getElem? (i := 9) rfl))) (by decide) (backOf (W := 0) (rmOk_3_4_3 l Z a0 hw [] b1 k1 _ _ _ x3 h28 n0 f30 f50) hZ (hw _ (List.mem_of_getElem? (i := 9) rfl)) (hw _ (List.mem_of_getElem? (i := 8) rfl)) (by decide) (by decide)) (g := (mkF m 164 #[.val (.int p0), .val (.int x0), .val (.int x1), .val (.int x2), .val (.int x3), .val (.int (4 : Int32)), .val (.ref b1), .val (.ref b16), .val (.int (3 : Int32)), .val (.int x3)] [(.int x3), (.int (3 : Int32)), (.int (4 : Int32)), (.int (3 : Int32)), (.ref b1)])) rfl (by rw [hml]; rfl) (argsL := [(.ref b1), (.int (3 : Int32)), (.int (4 : Int32)), (.int (3 : Int32)), (.int x3)]) (rest := []) (lenOf pd___IIIII_Z rfl) rfl (by show 2 * 0 + _ ≤ _; exact Nat.le_of_eq rfl) (hb hby at_164) (fun _ _ => ⟨rfl, eH54, (by decide : 2 + 0 ≤ _), (by decide : 8 + 0 ≤ _)⟩)
    dsimp only [Pt.U, Pt.locs, Pt.cells, Pt.slots] at X55 l55 y55 z55 st55 hQ55
    subst l55 y55 z55
    obtain ⟨rfl, Nq55, eH55⟩ := hQ55
    have N55 := Fr.app N54 Nq55
    refine own_st st55 ?_
    show own_Go p e below T55 (mkF m 167 #[.val (.int p0), .val (.int x0), .val (.int x1), .val (.int x2), .val (.int x3), .val (.int (4 : Int32)), .val (.ref b1), .val (.ref b16), .val (.int (3 : Int32)), .val (.int x3)] [(.int (1 : Int32))]) _
    refine own_st (fun t_ k_ => XS.ifNo X55.here hx rfl (hb hby at_167) rfl (by decide) k_) ?_
    show own_Go p e below T55 (mkF m 170 #[.val (.int p0), .val (.int x0), .val (.int x1), .val (.int x2), .val (.int x3), .val (.int (4 : Int32)), .val (.ref b1), .val (.ref b16), .val (.int (3 : Int32)), .val (.int x3)] []) _
    refine own_st (fun t_ k_ => XS.iconst X55.here hx rfl (hb hby at_170) k_) ?_
    show own_Go p e below T55 (mkF m 171 #[.val (.int p0), .val (.int x0), .val (.int x1), .val (.int x2), .val (.int x3), .val (.int (4 : Int32)), .val (.ref b1), .val (.ref b16), .val (.int (3 : Int32)), .val (.int x3)] [(.int (1 : Int32))]) _
    refine own_st (fun t_ k_ => XS.goto X55.here hx rfl (pc0 := 171) (pc' := 175) rfl (hb hby at_171) (by decide) (by decide) k_) ?_
    show own_Go p e below T55 (mkF m 175 #[.val (.int p0), .val (.int x0), .val (.int x1), .val (.int x2), .val (.int x3), .val (.int (4 : Int32)), .val (.ref b1), .val (.ref b16), .val (.int (3 : Int32)), .val (.int x3)] [(.int (1 : Int32))]) _
    obtain ⟨fs, hr, hrun, hended, hW, hsame⟩ := X55.leave (v := some (.int (1 : Int32))) (fun h => by rw [Bd.returns] at h; cases h)
    refine own_fin (retN X55 hx (t := .boolean) Bd.returns (by simp) (hb hby at_175) hr) ⟨hrun, hended, _, _, rfl, ?_, ⟨_, rfl⟩, hW, hsame.mono (by decide) (by decide)⟩
    show Q_rmLaw4 Z p0 x0 x1 x2 x3 h0 n0 _ T55.heap _
    rw [eH55]
    exact ⟨rfl, N55, K29⟩
theorem own_pre (p2 : Int32) : p2 &&& (3 : Int32) = (0 : Int32) ∨ p2 &&& (3 : Int32) = (1 : Int32) ∨ p2 &&& (3 : Int32) = (2 : Int32) ∨ p2 &&& (3 : Int32) = (3 : Int32) := by
  have h := c_and p2 3 (by decide)
  have e3 : (3 : Int32).toInt = 3 := rfl
  rw [e3] at h
  have h4 : (p2 &&& 3).toInt = 0 ∨ (p2 &&& 3).toInt = 1 ∨ (p2 &&& 3).toInt = 2 ∨ (p2 &&& 3).toInt = 3 := by omega
  rcases h4 with q | q | q | q
  · exact Or.inl (Int32.toInt_inj.mp q)
  · exact Or.inr (Or.inl (Int32.toInt_inj.mp q))
  · exact Or.inr (Or.inr (Or.inl (Int32.toInt_inj.mp q)))
  · exact Or.inr (Or.inr (Or.inr (Int32.toInt_inj.mp q)))
theorem rmLaw (l : Launch) (Z : State) (a0 : Array Value) (hw : ∀ d ∈ tables_1, d.before a0 Z = true) (ws : List Jvm.Cond) (p0 x0 x1 x2 x3 : Int32) (h0 : Heap) (n0 : Nat) (Z0 : n0 ≤ h0.size) :
    MetFree l x (head1 (Jvm.Cond.code x code maxLocals ret :: ws) room_1) (fun a U => a = #[(.int p0), (.int x0), (.int x1), (.int x2), (.int x3)] ∧ Z.Warmed39 U.vm ∧ U.heap = h0) (fun _ _ _ _ _ => True) (fun _ U o U' => ∃ v L, o = .returned v ∧ (v = some (.int (1 : Int32)) ∧ Fr n0 L ∧ Keep h0 U'.heap []) ∧ FrameEnd U o U' L 16 128) := by
  rcases own_pre p0 with q | q | q | q
  · exact rmLaw1 l Z a0 hw ws p0 x0 x1 x2 x3 h0 n0 Z0 q
  · exact rmLaw2 l Z a0 hw ws p0 x0 x1 x2 x3 h0 n0 Z0 q
  · exact rmLaw3 l Z a0 hw ws p0 x0 x1 x2 x3 h0 n0 Z0 q
  · exact rmLaw4 l Z a0 hw ws p0 x0 x1 x2 x3 h0 n0 Z0 q
set_option maxRecDepth 65536 in
set_option maxHeartbeats 40000000 in
theorem comes_1 {Post : Tables → Env → Array Value → State → Outcome → State → Prop} (hpost : ∀ tb e args s v u, (limb_1_1.after args s (.returned v) u = true ∧ limb_1_2.after args s (.returned v) u = true ∧ True) → FrameEnd s (.returned v) u (Jvm.fieldLocs frame_1_writes args s ++ Jvm.arrayLocs frame_1_arrays args s ++ Jvm.staticLocs frame_1_statics s) 16 128 → Post tb e args s (.returned v) u) :
    ArmFor flags0 classFile x code maxLocals ret World_1 tables_1 room_1 Calls_1 rest_1 Pre_1 Post := by
  intro l hfl _ _ p e ha hc hk s m args below hf hA hF happ hP
  obtain ⟨hcalls, hrest, hpre⟩ := hP
  obtain ⟨-, -, -, hnamed, -, -, -, hat⟩ := (Spec.applies_iff hf).mp happ
  obtain ⟨hg, hn⟩ := and_e (Cond.before_iff.mp (show (Jvm.Cond.and given_1 narrow_1).before args s = true from hpre))
  obtain ⟨hc0, hg0⟩ := and_e hg
  obtain ⟨ga0, hg1⟩ := and_e hg0
  obtain ⟨ga1, hg2⟩ := and_e hg1
  obtain ⟨ga2, hg3⟩ := and_e hg2
  obtain ⟨ga3, hg4⟩ := and_e hg3
  have ga4 := hg4
  obtain ⟨w0, w1, w2, w3, w4, rfl⟩ : ∃ w0 w1 w2 w3 w4 : Value, args = #[w0, w1, w2, w3, w4] := by
    have hs : args.size = 5 := by simpa [Cond.value, given_1] using hc0
    obtain ⟨L⟩ := args
    match L, hs with
    | [w0, w1, w2, w3, w4], _ => exact ⟨w0, w1, w2, w3, w4, rfl⟩
  have hw := fun d (hd : d ∈ tables_1) => atoms_spec (ws := Jvm.Cond.code x code maxLocals ret :: tables_1) hat d (List.mem_cons_of_mem _ hd)
  have hfit : Fit s := fun {y c} hc i hi => by
    obtain ⟨ha, rfl⟩ := Array.getElem?_eq_some_iff.mp hc
    have q := List.all_eq_true.mp ((Array.all_eq_true_iff_forall_mem.mp hF) _ (Array.getElem_mem ha)) i (List.mem_range.mpr hi)
    simpa [Array.getElem?_eq_getElem hi] using q
  obtain ⟨i0, ei0⟩ := is_v ga0
  obtain rfl : w0 = (.int i0) := Option.some.inj ei0
  obtain ⟨i1, ei1⟩ := is_v ga1
  obtain rfl : w1 = (.int i1) := Option.some.inj ei1
  obtain ⟨i2, ei2⟩ := is_v ga2
  obtain rfl : w2 = (.int i2) := Option.some.inj ei2
  obtain ⟨i3, ei3⟩ := is_v ga3
  obtain rfl : w3 = (.int i3) := Option.some.inj ei3
  obtain ⟨i4, ei4⟩ := is_v ga4
  obtain rfl : w4 = (.int i4) := Option.some.inj ei4
  obtain ⟨n, o, h1, h2, h3, _, L, rfl, ⟨rfl, N, -⟩, hq⟩ := rmLaw l s _ hw tables_1 i0 i1 i2 i3 i4 s.heap s.heap.size (Nat.le_refl _)  p e ha hc hk s m _ below hf ((Spec.applies_iff_loose hf).mp happ).1 ⟨rfl, State.Warmed39.refl s, rfl⟩ trivial
  refine ⟨n, _, h1, h2, h3, hpost _ _ _ _ _ _ ⟨Cond.after_iff.mpr rfl, Cond.after_iff.mpr (eq_i res_at (Term.int_eval (1)) rfl), trivial⟩ ⟨hq.1, hq.2.1, (hq.2.2.sift fun y hy => Or.inr (N y hy)).mono (by decide) (by decide)⟩⟩
theorem main_1_1 : Claimed_1_1 := comes_1 fun _ _ _ _ _ _ h hF => ⟨h.1, hF⟩
theorem main_1_2 : Claimed_1_2 := comes_1 fun _ _ _ _ _ _ h hF => ⟨h.2.1, hF⟩
end Jvm.Pilot.@@N@@
namespace Jvm.Pilot.@@N@@
open Jvm Jvm.ClassFile Sem Op Lib Jvm.Free Jvm.Stand Jvm.Pilot.@@N@@.Jvm.D
/-! MADE BY PROGRAM (witnessworld.py) out of the Statement's table words and the real class files: 12 classes; the members and pool entries that the words name. The judged class is class 1, her method 1. -/
namespace start1
open Jvm.ClassFile
def u (s : String) : CpInfo := .utf8 (stringToUtf16 s)
/-- a pool by its gaps: so many unusable entries, then the entry; so many at the end -/
def gap : Nat → List CpInfo → List CpInfo
  | 0, r => r
  | n + 1, r => .unusable :: gap n r
def poolList (es : List (Nat × CpInfo)) (last : Nat) : List CpInfo := es.foldr (fun e r => gap e.1 (e.2 :: r)) (gap last [])
def pool (es : List (Nat × CpInfo)) (last : Nat) : Array CpInfo := ⟨poolList es last⟩
def fileOf (pool : Array CpInfo) (this : Nat) (attrs : Array Attribute := #[]) (ms : Array MethodInfo := #[]) (fl : Nat := 33) (sup : Nat := 0) (ifs : Array Nat := #[]) (fds : Array FieldInfo := #[]) : ClassFile where
  minorVersion := 0
  majorVersion := 65
  constantPool := pool
  accessFlags := fl
  thisClass := this
  superClass := sup
  interfaces := ifs
  fields := fds
  methods := ms
  attributes := attrs
def plain (name : String) (sup : Option ClassId) : Class where
  name := name
  kind := .ordinary
  loader := none
  accessFlags := 33
  super := sup
  interfaces := #[]
  cf := none
  fields := #[]
  methods := #[]
  instanceTypes := #[]
  staticTypes := #[]
  resolved := #[]
  callSites := []
  init := .initialized
  statics := none
  mirror := none

def pool0 : Array CpInfo := pool [(5, u "<init>"), (0, u "()V"), (1, .class_ 10), (1, u "java/lang/Object")] 113

def k0m0 : Method := { name := "<init>", desc := "()V", sig := { parameters := [], returnType := none }, accessFlags := 1, code := none }
/-- java/lang/Object -/
def k0 : Class := { plain "java/lang/Object" none with
  accessFlags := 33
  interfaces := #[]
  cf := some (fileOf pool0 8 #[] #[{ accessFlags := 1, nameIndex := 5, descriptorIndex := 6, attributes := #[] }] 33 0 #[] #[])
  fields := #[]
  methods := #[k0m0]
  instanceTypes := #[]
  staticTypes := #[]
  resolved := Array.replicate 124 none
  statics := none }

def pool1 : Array CpInfo := pool [(2, .class_ 4), (1, u "java/lang/Object"), (0, u "<init>"), (0, u "()V"), (0, .methodref 8 9), (0, .class_ 10), (0, .nameAndType 11 12), (0, u "com/example/spillback/spillback/behaviour/PlanSelector"), (0, u "highest"), (0, u "([D)I"), (0, .methodref 14 15), (0, .class_ 16), (0, .nameAndType 17 18), (0, u "com/example/spillback/spillback/behaviour/PlanSelectorHighestPinLaw"), (0, u "ok"), (0, u "([IIIII)Z"), (2, u "law"), (0, u "(IIIII)Z")] 7

def k1m0 : Method := { name := "<init>", desc := "()V", sig := { parameters := [], returnType := none }, accessFlags := 2, code := none }
def k1c1 : Code := { maxStack := 5, maxLocals := 10, code := code, exceptionTable := #[], attributes := #[] }
def k1m1 : Method := { name := "law", desc := "(IIIII)Z", sig := { parameters := [.int, .int, .int, .int, .int], returnType := some .boolean }, accessFlags := 9, code := some k1c1 }
def k1c2 : Code := { maxStack := 2, maxLocals := 5, code := method_3_code, exceptionTable := #[], attributes := #[] }
def k1m2 : Method := { name := "ok", desc := "([IIIII)Z", sig := { parameters := [(.array .int), .int, .int, .int, .int], returnType := some .boolean }, accessFlags := 10, code := some k1c2 }
/-- com/example/spillback/spillback/behaviour/PlanSelectorHighestPinLaw -/
def k1 : Class := { plain "com/example/spillback/spillback/behaviour/PlanSelectorHighestPinLaw" (some 0) with
  accessFlags := 49
  interfaces := #[]
  cf := some (fileOf pool1 14 #[] #[{ accessFlags := 2, nameIndex := 5, descriptorIndex := 6, attributes := #[] }, { accessFlags := 9, nameIndex := 21, descriptorIndex := 22, attributes := #[] }, { accessFlags := 10, nameIndex := 17, descriptorIndex := 18, attributes := #[] }] 49 2 #[] #[])
  fields := #[]
  methods := #[k1m0, k1m1, k1m2]
  instanceTypes := #[]
  staticTypes := #[]
  resolved := Array.replicate 30 none
  statics := none }

def pool2 : Array CpInfo := pool [(1, .class_ 2), (0, u "com/example/spillback/spillback/behaviour/PlanStrategy"), (0, .class_ 4), (0, u "java/lang/Object")] 6

/-- com/example/spillback/spillback/behaviour/PlanStrategy -/
def k2 : Class := { plain "com/example/spillback/spillback/behaviour/PlanStrategy" (some 0) with
  accessFlags := 1537
  interfaces := #[]
  cf := some (fileOf pool2 1 #[] #[] 1537 3 #[] #[])
  fields := #[]
  methods := #[]
  instanceTypes := #[]
  staticTypes := #[]
  resolved := Array.replicate 11 none
  statics := none }

def pool3 : Array CpInfo := pool [(2, .class_ 4), (1, u "java/lang/Object"), (3, .class_ 10), (1, u "com/example/spillback/spillback/behaviour/PlanSelector"), (0, u "choice"), (0, u "Lcom/example/spillback/spillback/behaviour/PlanSelector$Choice;"), (80, .class_ 95), (1, u "com/example/spillback/spillback/behaviour/PlanSelector$Choice"), (48, u "highest"), (0, u "([D)I"), (6, .class_ 153), (0, u "com/example/spillback/spillback/behaviour/PlanStrategy"), (0, u "SWITCH_PROBABILITY"), (0, u "D")] 73

def k3c0 : Code := { maxStack := 4, maxLocals := 3, code := prog_21_method_10_code, exceptionTable := #[], attributes := #[] }
def k3m0 : Method := { name := "highest", desc := "([D)I", sig := { parameters := [(.array .double)], returnType := some .int }, accessFlags := 8, code := some k3c0 }
/-- com/example/spillback/spillback/behaviour/PlanSelector -/
def k3 : Class := { plain "com/example/spillback/spillback/behaviour/PlanSelector" (some 0) with
  accessFlags := 49
  interfaces := #[2]
  cf := some (fileOf pool3 8 #[.nestMembers #[93]] #[{ accessFlags := 8, nameIndex := 144, descriptorIndex := 145, attributes := #[] }] 49 2 #[152] #[{ accessFlags := 26, nameIndex := 154, descriptorIndex := 155, attributes := #[] }, { accessFlags := 18, nameIndex := 11, descriptorIndex := 12, attributes := #[] }])
  fields := #[{ name := "SWITCH_PROBABILITY", type := .double, accessFlags := 26, slot := 0, constantValue := 0 }, { name := "choice", type := (.object "com/example/spillback/spillback/behaviour/PlanSelector$Choice"), accessFlags := 18, slot := 0, constantValue := 0 }]
  methods := #[k3m0]
  instanceTypes := #[(.object "com/example/spillback/spillback/behaviour/PlanSelector$Choice")]
  staticTypes := #[.double]
  resolved := Array.replicate 229 none
  statics := none }

def pool4 : Array CpInfo := pool [(1, u "java/lang/Cloneable"), (0, .class_ 1), (0, u "java/lang/Object"), (0, .class_ 3)] 3

/-- java/lang/Cloneable -/
def k4 : Class := { plain "java/lang/Cloneable" (some 0) with
  accessFlags := 1537
  interfaces := #[]
  cf := some (fileOf pool4 2 #[] #[] 1537 4 #[] #[])
  fields := #[]
  methods := #[]
  instanceTypes := #[]
  staticTypes := #[]
  resolved := Array.replicate 8 none
  statics := none }

def pool5 : Array CpInfo := pool [(1, u "java/io/Serializable"), (0, .class_ 1), (0, u "java/lang/Object"), (0, .class_ 3)] 3

/-- java/io/Serializable -/
def k5 : Class := { plain "java/io/Serializable" (some 0) with
  accessFlags := 1537
  interfaces := #[]
  cf := some (fileOf pool5 2 #[] #[] 1537 4 #[] #[])
  fields := #[]
  methods := #[]
  instanceTypes := #[]
  staticTypes := #[]
  resolved := Array.replicate 8 none
  statics := none }

/-- the primitive byte -/
def k6 : Class := { plain "byte" none with kind := .primitive 'B', accessFlags := 0x411 }
/-- [B -/
def k7 : Class := { plain "[B" (some 0) with kind := .array 6 .byte, interfaces := #[4, 5], accessFlags := 1041 }

/-- the primitive double -/
def k8 : Class := { plain "double" none with kind := .primitive 'D', accessFlags := 0x411 }
/-- [D -/
def k9 : Class := { plain "[D" (some 0) with kind := .array 8 .double, interfaces := #[4, 5], accessFlags := 1041 }

/-- the primitive int -/
def k10 : Class := { plain "int" none with kind := .primitive 'I', accessFlags := 0x411 }
/-- [I -/
def k11 : Class := { plain "[I" (some 0) with kind := .array 10 .int, interfaces := #[4, 5], accessFlags := 1041 }

def heap : Heap := #[]
def classes : Array Class := #[k0, k1, k2, k3, k4, k5, k6, k7, k8, k9, k10, k11]
def interned : List (Array UInt16 × Addr) := []
def slotsUsed : Nat := 0
def theMethod : MethodId := ⟨1, 1⟩
def args0 : Array Value := #[.int 5, .int 300, .int 7, .int 1, .int 2]
def aboutOver (below : List Frame) : State where
  vm := { classes := classes, interned := interned.toArray }
  heap := heap
  slotsUsed := slotsUsed
  threads := #[{ frames := .invoking theMethod args0 :: below }]
def below0 : List Frame := [.native { method := ⟨0, 0⟩, args := #[] }]
def about1 : State := aboutOver below0
def p0 : Program := .bare "" "" ""
def e0 : Env := launch0.env 0 0 0
theorem w_frames : about1.frames = Frame.invoking theMethod args0 :: below0 := rfl
set_option maxRecDepth 65536 in
theorem w_args : argsFit about1.vm theMethod args0 = true := by decide +kernel
set_option maxRecDepth 65536 in
theorem w_heap : heapFits about1 = true := by decide +kernel
set_option maxRecDepth 65536 in
theorem w_runnable : about1.curStatus? = some .runnable := by decide +kernel
set_option maxRecDepth 65536 in
theorem w_alone : about1.alone = true := by decide +kernel
set_option maxRecDepth 65536 in
theorem w_named : about1.methodNamed? x = some theMethod := by decide +kernel
set_option maxRecDepth 65536 in
theorem w_hears : about1.hears theMethod below0 = true := by decide +kernel
set_option maxRecDepth 65536 in
theorem w_ripe : about1.ripe theMethod args0 below0 = true := by decide +kernel
theorem w_running : about1.status = .running := rfl
set_option maxRecDepth 65536 in
theorem w_room : about1.hasRoom e0.platform room_1 = true :=
  launch0.hasRoom_least _ room_1 (by decide +kernel) (by decide +kernel) (by decide +kernel) (by decide +kernel) (by decide +kernel) (by decide +kernel)
theorem allAtoms_all (ts : List Jvm.Cond) (a : Array Jvm.Value) (st : Jvm.State) : (allAtoms ts).before a st = ts.all (fun c => c.before a st) := by
  induction ts with
  | nil => rfl
  | cons c t ih =>
    show (Jvm.Cond.and c (allAtoms t)).before a st = _
    rw [Jvm.Cond.before_and, ih, List.all_cons]
def words1 : List Jvm.Cond := Jvm.Cond.code x code maxLocals ret :: tables_1
/-- a 'code' word, met by the world's own term for the bytes: nothing is compared byte by byte -/
theorem code_word {y : MethodName} {bytes : ByteArray} {mx : Nat} {rt : Option FieldType} {a : Array Value} {s : State} {m : MethodId} {meth : Method} {c : Code} (h1 : s.methodNamed? y = some m) (h2 : s.vm.method? m = some meth) (h3 : meth.code = some c) (h4 : c.code = bytes)
    (h5 : (c.maxLocals == mx && c.exceptionTable.isEmpty && decide (c.maxStack ≤ mostOperands) && decide (meth.sig.returnType = rt) && !meth.locks && decide (parseMethodDescriptor y.desc = some meth.sig)) = true) : (Jvm.Cond.code y bytes mx rt).before a s = true := by
  simp only [Bool.and_eq_true, beq_iff_eq, Bool.not_eq_true', decide_eq_true_eq] at h5
  obtain ⟨⟨⟨⟨⟨g1, g2⟩, g3⟩, g4⟩, g5⟩, g6⟩ := h5
  simp [Cond.before, Cond.holds, Cond.value, h1, h2, h3, h4, g1, g2, g3, g4, g5, g6]
def isCode : Jvm.Cond → Bool
  | .code _ _ _ _ => true
  | _ => false
theorem all_split {L : List Jvm.Cond} {P : Jvm.Cond → Bool} (h1 : L.all (fun c => isCode c || P c) = true) (h2 : ∀ c ∈ L.filter isCode, P c = true) : L.all P = true := by
  refine List.all_eq_true.mpr fun c hc => ?_
  have h := List.all_eq_true.mp h1 c hc
  rcases Bool.eq_false_or_eq_true (isCode c) with hi | hi
  · exact h2 c (List.mem_filter.mpr ⟨hc, hi⟩)
  · simpa [hi] using h
set_option maxRecDepth 65536 in
theorem w_c0 : (Jvm.Cond.code x code maxLocals ret).before args0 about1 = true := code_word (m := ⟨1, 1⟩) (meth := k1m1) (c := k1c1) (by decide +kernel) rfl rfl rfl (by decide +kernel)
set_option maxRecDepth 65536 in
theorem w_c1 : (Jvm.Cond.code ({ cls := "com/example/spillback/spillback/behaviour/PlanSelector", name := "highest", desc := "([D)I" } : Jvm.MethodName) prog_21_method_10_code (3 : Nat) (Option.some Jvm.ClassFile.FieldType.int)).before args0 about1 = true := code_word (m := ⟨3, 0⟩) (meth := k3m0) (c := k3c0) (by decide +kernel) rfl rfl rfl (by decide +kernel)
set_option maxRecDepth 65536 in
theorem w_c2 : (Jvm.Cond.code ({ cls := "com/example/spillback/spillback/behaviour/PlanSelectorHighestPinLaw", name := "ok", desc := "([IIIII)Z" } : Jvm.MethodName) method_3_code (5 : Nat) (Option.some Jvm.ClassFile.FieldType.boolean)).before args0 about1 = true := code_word (m := ⟨1, 2⟩) (meth := k1m2) (c := k1c2) (by decide +kernel) rfl rfl rfl (by decide +kernel)
def codes1 : List Jvm.Cond := [Jvm.Cond.code x code maxLocals ret, Jvm.Cond.code ({ cls := "com/example/spillback/spillback/behaviour/PlanSelector", name := "highest", desc := "([D)I" } : Jvm.MethodName) prog_21_method_10_code (3 : Nat) (Option.some Jvm.ClassFile.FieldType.int), Jvm.Cond.code ({ cls := "com/example/spillback/spillback/behaviour/PlanSelectorHighestPinLaw", name := "ok", desc := "([IIIII)Z" } : Jvm.MethodName) method_3_code (5 : Nat) (Option.some Jvm.ClassFile.FieldType.boolean)]
set_option maxRecDepth 65536 in
theorem codes_eq : words1.filter isCode = codes1 := rfl
theorem w_codes : ∀ c ∈ words1.filter isCode, c.before args0 about1 = true := by
  rw [codes_eq]
  intro c hc
  simp only [codes1, List.mem_cons, List.not_mem_nil, or_false] at hc
  rcases hc with rfl | rfl | rfl
  · exact w_c0
  · exact w_c1
  · exact w_c2
set_option maxRecDepth 65536 in
theorem w_t1 : words1.all (fun c => isCode c || c.before args0 about1) = true := by decide +kernel
theorem w_tables : (allAtoms (Jvm.Cond.code x code maxLocals ret :: tables_1)).before args0 about1 = true := by
  rw [allAtoms_all]
  show words1.all (fun c => c.before args0 about1) = true
  refine all_split ?_ w_codes
  rw [w_t1]
set_option maxRecDepth 65536 in
theorem w_case : (Jvm.Cond.and given_1 narrow_1).before args0 about1 = true := by decide +kernel
theorem w_applies : (headSpec (Jvm.Cond.code x code maxLocals ret :: tables_1) room_1).applies x e0.platform about1 = true :=
  (Spec.applies_iff w_frames).mpr ⟨w_running, w_runnable, w_alone, w_named, w_hears, w_ripe, w_room, w_tables⟩
theorem atStart : AtStart classFile x code maxLocals ret World_1 tables_1 room_1 Calls_1 rest_1 Pre_1 launch0 p0 e0 about1 theMethod args0 below0 :=
  ⟨lists_1, trivial, launch0.admits_env _ _ _, launch0.least_env, fairChoices_fair.cas, fairChoices_fair.clock, w_frames, w_args, w_heap, w_applies, trivial, trivial, w_case⟩
end start1
theorem witness_1 : WitnessClaimed_1 := ⟨start1.p0, start1.e0, start1.about1, start1.theMethod, start1.args0, start1.below0, start1.atStart⟩
end Jvm.Pilot.@@N@@
