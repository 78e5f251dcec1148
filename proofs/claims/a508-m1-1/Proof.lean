import JvmDerived
import JvmDerived.Pilot.@@N@@Statement
import JvmDerived.Pilot.@@N@@Code
set_option linter.unusedVariables false
set_option linter.unusedSimpArgs false
/- laws to paste: Road.backV, Road.lenW, Road.chN, Road.eqW, Road.empW, Road.codOf (cut by pick.py; bodies as the Statement names them) -/
namespace Jvm.Pilot.@@N@@
namespace StrChars
open Jvm Sem ClassFile Op Lib Jvm.Stand Jvm.Free.XT Jvm.Free.ALB Jvm.Free.JM Jvm.Free
open Jvm.Lib.Cold (StaticIs)
/-- a char array whose places are chars -/
def Ch (a : Addr) (A : Cell) (U : State) : Prop := Arr .char a A U ∧ Typed .char A
theorem Ch.mv {a : Addr} {A : Cell} {U U' : State} (h : Ch a A U) (hal : U.vm.Alike U'.vm) (hh : U'.heap = U.heap) : Ch a A U' := ⟨h.1.mv hal hh, h.2⟩
theorem Ch.keep {a : Addr} {A : Cell} {U U' : State} (h : Ch a A U) (hal : U.vm.Alike U'.vm) (hk : U'.heap[a]? = some A) : Ch a A U' := ⟨h.1.keep hal hk, h.2⟩
/-- what place i of a char[]'s cell holds -/
def cv (A : Cell) (i : Nat) : Int32 := match A.slots[i]? with | some (.int x) => x | _ => 0
theorem Ch.get {a : Addr} {A : Cell} {U : State} (h : Ch a A U) {i : Nat} (hi : i < A.slots.size) : A.slots[i]? = some (.int (cv A i)) := by
  have e := Array.getElem?_eq_getElem hi
  have f := h.2 i _ e
  unfold cv; rw [e]
  generalize A.slots[i] = v at f
  cases v <;> simp [fits] at f ⊢
/-- the byte that i2b leaves of a char -/
def lo8 (x : Int32) : Int32 := x.toInt8.toInt32
theorem fits_lo8 (y : Int32) : fits .byte (.int (lo8 y)) = true := by
  have h1 := y.toInt8.le_toInt
  have h2 := y.toInt8.toInt_lt
  simp only [lo8, fits, Bool.and_eq_true, decide_eq_true_eq, Int32.le_iff_toInt_le, Int8.toInt_toInt32, show (-128 : Int32).toInt = -128 from by decide, show (127 : Int32).toInt = 127 from by decide]
  omega
/-- A' is A but that each place j of lo .. hi - 1 holds f j -/
def Laid (A A' : Cell) (lo hi : Nat) (f : Nat → Value) : Prop := A'.cls = A.cls ∧ A'.vm = A.vm ∧ A'.slots.size = A.slots.size ∧ ∀ i, A'.slots[i]? = if lo ≤ i ∧ i < hi then some (f i) else A.slots[i]?
theorem Laid.zero (A : Cell) (lo : Nat) (f : Nat → Value) : Laid A A lo (lo + 0) f := ⟨rfl, rfl, rfl, fun i => by rw [if_neg (by omega)]⟩
theorem Laid.step {A Ak : Cell} {lo k : Nat} {f : Nat → Value} {v : Value} (h : Laid A Ak lo k f) (hlo : lo ≤ k) (hk : k < Ak.slots.size) (hv : v = f k) : Laid A (Ak.setSlot k v) lo (k + 1) f := by
  refine ⟨h.1, h.2.1, by simpa [Cell.setSlot] using h.2.2.1, fun i => ?_⟩
  by_cases e : k = i
  · subst e; rw [Cell.slots_setSlot_self v hk, if_pos (by omega), hv]
  · rw [Cell.slots_setSlot_ne v e, h.2.2.2 i]
    by_cases q : lo ≤ i ∧ i < k
    · rw [if_pos q, if_pos (by omega)]
    · rw [if_neg q, if_neg (by omega)]
def U16 : String := "java/lang/StringUTF16"
namespace Cmp5
def yN : MethodName := ⟨"java/lang/StringUTF16", "compress", "([CI[BII)I"⟩
abbrev yB : ByteArray := jdk_52_method_21_code
theorem d0 : decode yB 0 = .ok (.iconst 0, 1) := by decide +kernel
theorem d1 : decode yB 1 = .ok (.istore 5, 2) := by decide +kernel
theorem d3 : decode yB 3 = .ok (.iload 5, 2) := by decide +kernel
theorem d5 : decode yB 5 = .ok (.iload 4, 2) := by decide +kernel
theorem d7 : decode yB 7 = .ok (.if_icmp (.ge) 37, 3) := by decide +kernel
theorem d10 : decode yB 10 = .ok (.aload_n 0, 1) := by decide +kernel
theorem d11 : decode yB 11 = .ok (.iload_n 1, 1) := by decide +kernel
theorem d12 : decode yB 12 = .ok (.caload, 1) := by decide +kernel
theorem d13 : decode yB 13 = .ok (.istore 6, 2) := by decide +kernel
theorem d15 : decode yB 15 = .ok (.iload 6, 2) := by decide +kernel
theorem d17 : decode yB 17 = .ok (.sipush 255, 3) := by decide +kernel
theorem d20 : decode yB 20 = .ok (.if_icmp (.le) 6, 3) := by decide +kernel
theorem d26 : decode yB 26 = .ok (.aload_n 2, 1) := by decide +kernel
theorem d27 : decode yB 27 = .ok (.iload_n 3, 1) := by decide +kernel
theorem d28 : decode yB 28 = .ok (.iload 6, 2) := by decide +kernel
theorem d30 : decode yB 30 = .ok (.i2b, 1) := by decide +kernel
theorem d31 : decode yB 31 = .ok (.bastore, 1) := by decide +kernel
theorem d32 : decode yB 32 = .ok (.iinc 1 1, 3) := by decide +kernel
theorem d35 : decode yB 35 = .ok (.iinc 3 1, 3) := by decide +kernel
theorem d38 : decode yB 38 = .ok (.iinc 5 1, 3) := by decide +kernel
theorem d41 : decode yB 41 = .ok (.goto (-38), 3) := by decide +kernel
theorem d44 : decode yB 44 = .ok (.iload 4, 2) := by decide +kernel
theorem d46 : decode yB 46 = .ok (.ireturn, 1) := by decide +kernel
def site : List Cond := []
def tab : Cond := tabOf yN yB 7 (some .int) site
def P (b : Addr) (A : Cell) (d : Addr) (B : Cell) (o q len : Nat) (args : Array Value) (s : State) : Prop := args = #[.ref b, .int (Int32.ofNat o), .ref d, .int (Int32.ofNat q), .int (Int32.ofNat len)] ∧ Ch b A s ∧ Arr .byte d B s ∧ b ≠ d ∧ o + len ≤ A.slots.size ∧ q + len ≤ B.slots.size ∧ ∀ i, i < len → ¬ 255 < cv A (o + i)
def E (b : Addr) (A : Cell) (d : Addr) (B : Cell) (o q len : Nat) (r : Option Value) (s u : State) : Prop := r = some (.int (Int32.ofNat len)) ∧ ∃ B', Put d B' s u ∧ Laid B B' q (q + len) (fun j => Value.int (lo8 (cv A (o + (j - q)))))
/-- no char of the range above 255: len; the places written hold each char's low byte -/
theorem law (l : Launch) (b : Addr) (A : Cell) (d : Addr) (B : Cell) (o q len : Nat) : Law l yN 5 5 0 0 yB 7 (some .int) site (P b A d B o q len) (E b A d B o q len) (copyLocs d q len) 0 0 := by
  refine Law.of_walk (plainFor_of_name (by decide +kernel)) (by decide +kernel) (by decide +kernel) (by decide) (fun _ _ h => by rw [h.1]; rfl) (fun _ U U' hal hh h => ⟨h.1, h.2.1.mv hal hh, h.2.2.1.mv hal hh, h.2.2.2⟩) (fun r U U' V V' h1 hal h2 h => ⟨h.1, h.2.elim fun B' q => ⟨B', q.1.mv h1 h2, q.2⟩⟩) ?_
  intro p e s m args below meth c s₁ X0 hexec hbytes hml hret hlk hnm hown hh0 W hP
  obtain ⟨rfl, hA, hB, hne, l1, l2, hp⟩ := hP
  have c1 : Steps p.tables e below (s₁.setTop (entryFrame m #[.ref b, .int (Int32.ofNat o), .ref d, .int (Int32.ofNat q), .int (Int32.ofNat len)] 7)) (s₁.setTop (mkF m 0 #[.val (.ref b), .val (.int (Int32.ofNat o)), .val (.ref d), .val (.int (Int32.ofNat q)), .val (.int (Int32.ofNat len)), .unset, .unset] [])) := entry rfl
  have hA0 := hA.1.mv X0.warmed.alike hh0
  have hB0 := hB.mv X0.warmed.alike hh0
  have a31 := hA.1.2.2.2
  have c2 : Steps p.tables e below (s₁.setTop (entryFrame m #[.ref b, .int (Int32.ofNat o), .ref d, .int (Int32.ofNat q), .int (Int32.ofNat len)] 7)) (s₁.setTop (mkF m 3 #[.val (.ref b), .val (.int (Int32.ofNat o)), .val (.ref d), .val (.int (Int32.ofNat q)), .val (.int (Int32.ofNat len)), .val (.int 0), .unset] [])) := c1.trans (by
    refine iconstV X0.here hexec rfl 0 (hb hbytes d0) (by decide) ?_
    refine XS.istore X0.here hexec rfl (hb hbytes d1) rfl rfl ?_
    exact Steps.refl _)
  have loop : ∀ (r i : Nat), i + r = len → ∀ (z : Slot), (z = .unset ∨ ∃ w, z = .val w ∧ w.category = 1) → ∀ (Tl : State) (Bk : Cell), Stand p l e { frames := 0, locals := 0, cells := 0, slots := 0 } s m #[.ref b, .int (Int32.ofNat o), .ref d, .int (Int32.ofNat q), .int (Int32.ofNat len)] below meth c Tl ([] ++ copyLocs d q i) 0 0 → Put d Bk s₁ Tl → Laid B Bk q (q + i) (fun j => Value.int (lo8 (cv A (o + (j - q))))) →
      Steps p.tables e below (s₁.setTop (entryFrame m #[.ref b, .int (Int32.ofNat o), .ref d, .int (Int32.ofNat q), .int (Int32.ofNat len)] 7)) (Tl.setTop (mkF m 3 #[.val (.ref b), .val (.int (Int32.ofNat (o + i))), .val (.ref d), .val (.int (Int32.ofNat (q + i))), .val (.int (Int32.ofNat len)), .val (.int (Int32.ofNat i)), z] [])) → ∃ (T' : State) (B' : Cell) (z' : Slot), Stand p l e { frames := 0, locals := 0, cells := 0, slots := 0 } s m #[.ref b, .int (Int32.ofNat o), .ref d, .int (Int32.ofNat q), .int (Int32.ofNat len)] below meth c T' ([] ++ copyLocs d q len) 0 0 ∧ Put d B' s₁ T' ∧ Laid B B' q (q + len) (fun j => Value.int (lo8 (cv A (o + (j - q))))) ∧
      Steps p.tables e below (s₁.setTop (entryFrame m #[.ref b, .int (Int32.ofNat o), .ref d, .int (Int32.ofNat q), .int (Int32.ofNat len)] 7)) (T'.setTop (mkF m 3 #[.val (.ref b), .val (.int (Int32.ofNat (o + len))), .val (.ref d), .val (.int (Int32.ofNat (q + len))), .val (.int (Int32.ofNat len)), .val (.int (Int32.ofNat len)), z'] [])) := by
    intro r
    induction r with
    | zero =>
      intro i hi z hz Tl Bk Xl pl fl cl
      have hil : i = len := by omega
      rw [hil] at Xl fl cl
      exact ⟨Tl, Bk, z, Xl, pl, fl, cl⟩
    | succ r ih =>
      intro i hi z hz Tl Bk Xl pl fl cl
      have all := X0.warmed.alike.symm.trans Xl.warmed.alike
      have hAl := hA0.keep all (pl.other hne hA0.1)
      have hBk := hB0.like all pl.1 fl.1 fl.2.1 fl.2.2.1
      have hlt : q + i < Bk.slots.size := by rw [fl.2.2.1]; omega
      have c3 : Steps p.tables e below (s₁.setTop (entryFrame m #[.ref b, .int (Int32.ofNat o), .ref d, .int (Int32.ofNat q), .int (Int32.ofNat len)] 7)) (Tl.setTop (mkF m 12 #[.val (.ref b), .val (.int (Int32.ofNat (o + i))), .val (.ref d), .val (.int (Int32.ofNat (q + i))), .val (.int (Int32.ofNat len)), .val (.int (Int32.ofNat i)), z] [.int (Int32.ofNat (o + i)), .ref b])) := cl.trans (by
        refine XS.iload Xl.here hexec rfl (hb hbytes d3) rfl ?_
        refine XS.iload Xl.here hexec rfl (hb hbytes d5) rfl ?_
        refine XS.icmpNo Xl.here hexec rfl (hb hbytes d7) rfl (ii_ge_f (lt32 (by omega) (by omega))) ?_
        refine XS.aloadN Xl.here hexec rfl (hb hbytes d10) rfl rfl ?_
        refine XS.iloadN Xl.here hexec rfl (hb hbytes d11) rfl ?_
        exact Steps.refl _)
      have c4 : Steps p.tables e below (s₁.setTop (entryFrame m #[.ref b, .int (Int32.ofNat o), .ref d, .int (Int32.ofNat q), .int (Int32.ofNat len)] 7)) (Tl.setTop (mkF m 13 #[.val (.ref b), .val (.int (Int32.ofNat (o + i))), .val (.ref d), .val (.int (Int32.ofNat (q + i))), .val (.int (Int32.ofNat len)), .val (.int (Int32.ofNat i)), z] [.int (cv A (o + i))])) := c3.trans (by
        refine Xl.aget hexec hAl rfl (hA.get (i := o + i) (by omega)) rfl rfl (hb hbytes d12) ?_
        exact Steps.refl _)
      have c5 : Steps p.tables e below (s₁.setTop (entryFrame m #[.ref b, .int (Int32.ofNat o), .ref d, .int (Int32.ofNat q), .int (Int32.ofNat len)] 7)) (Tl.setTop (mkF m 15 #[.val (.ref b), .val (.int (Int32.ofNat (o + i))), .val (.ref d), .val (.int (Int32.ofNat (q + i))), .val (.int (Int32.ofNat len)), .val (.int (Int32.ofNat i)), .val (.int (cv A (o + i)))] [])) := c4.trans (by
        refine XS.istoreS Xl.here hexec rfl (hb hbytes d13) rfl rfl hz ?_
        exact Steps.refl _)
      have c6 : Steps p.tables e below (s₁.setTop (entryFrame m #[.ref b, .int (Int32.ofNat o), .ref d, .int (Int32.ofNat q), .int (Int32.ofNat len)] 7)) (Tl.setTop (mkF m 31 #[.val (.ref b), .val (.int (Int32.ofNat (o + i))), .val (.ref d), .val (.int (Int32.ofNat (q + i))), .val (.int (Int32.ofNat len)), .val (.int (Int32.ofNat i)), .val (.int (cv A (o + i)))] [.int (lo8 (cv A (o + i))), .int (Int32.ofNat (q + i)), .ref d])) := c5.trans (by
        refine XS.iload Xl.here hexec rfl (hb hbytes d15) rfl ?_
        refine sipushV Xl.here hexec rfl 255 (hb hbytes d17) (by decide) ?_
        refine XS.icmpYes Xl.here hexec rfl (pc0 := 20) rfl (hb hbytes d20) rfl (ii_le_t (hp i (by omega))) (by decide) rfl ?_
        refine XS.aloadN Xl.here hexec rfl (hb hbytes d26) rfl rfl ?_
        refine XS.iloadN Xl.here hexec rfl (hb hbytes d27) rfl ?_
        refine XS.iload Xl.here hexec rfl (hb hbytes d28) rfl ?_
        refine i2b Xl.here hexec rfl (hb hbytes d30) rfl ?_
        exact Steps.refl _)
      obtain ⟨T7, X7, p7, st7⟩ := Xl.aput hexec hBk rfl hlt rfl (fits_lo8 (cv A (o + i))) (g := (mkF m 31 #[.val (.ref b), .val (.int (Int32.ofNat (o + i))), .val (.ref d), .val (.int (Int32.ofNat (q + i))), .val (.int (Int32.ofNat len)), .val (.int (Int32.ofNat i)), .val (.int (cv A (o + i)))] [.int (lo8 (cv A (o + i))), .int (Int32.ofNat (q + i)), .ref d])) rfl (rest := []) rfl (hb hbytes d31)
      have c8 : Steps p.tables e below (s₁.setTop (entryFrame m #[.ref b, .int (Int32.ofNat o), .ref d, .int (Int32.ofNat q), .int (Int32.ofNat len)] 7)) (T7.setTop (mkF m 32 #[.val (.ref b), .val (.int (Int32.ofNat (o + i))), .val (.ref d), .val (.int (Int32.ofNat (q + i))), .val (.int (Int32.ofNat len)), .val (.int (Int32.ofNat i)), .val (.int (cv A (o + i)))] [])) := c6.trans (st7 _ (Steps.refl _))
      have c9 : Steps p.tables e below (s₁.setTop (entryFrame m #[.ref b, .int (Int32.ofNat o), .ref d, .int (Int32.ofNat q), .int (Int32.ofNat len)] 7)) (T7.setTop (mkF m 3 #[.val (.ref b), .val (.int (Int32.ofNat (o + i) + 1)), .val (.ref d), .val (.int (Int32.ofNat (q + i) + 1)), .val (.int (Int32.ofNat len)), .val (.int (Int32.ofNat i + 1)), .val (.int (cv A (o + i)))] [])) := c8.trans (by
        refine iincV X7.here hexec rfl 1 (hb hbytes d32) (by decide) rfl rfl ?_
        refine iincV X7.here hexec rfl 1 (hb hbytes d35) (by decide) rfl rfl ?_
        refine iincV X7.here hexec rfl 1 (hb hbytes d38) (by decide) rfl rfl ?_
        refine XS.goto X7.here hexec rfl (pc0 := 41) rfl (hb hbytes d41) (by decide) rfl ?_
        exact Steps.refl _)
      have c10 : Steps p.tables e below (s₁.setTop (entryFrame m #[.ref b, .int (Int32.ofNat o), .ref d, .int (Int32.ofNat q), .int (Int32.ofNat len)] 7)) (T7.setTop (mkF m 3 #[.val (.ref b), .val (.int (Int32.ofNat (o + (i + 1)))), .val (.ref d), .val (.int (Int32.ofNat (q + (i + 1)))), .val (.int (Int32.ofNat len)), .val (.int (Int32.ofNat (i + 1))), .val (.int (cv A (o + i)))] [])) := by
        have := c9
        rw [succ32, succ32, succ32] at this
        exact this
      exact ih (i + 1) (by omega) _ (Or.inr ⟨_, rfl, rfl⟩) T7 _ (by rw [copyLocs_step, ← List.append_assoc]; exact X7) (pl.trans p7) (fl.step (by omega) hlt (by simp)) c10
  obtain ⟨T9, B9, z9, X9, p9, f9, g9⟩ := loop len 0 (by omega) .unset (Or.inl rfl) s₁ B (by simpa [copyLocs] using X0) ⟨hB0.1, fun _ _ => rfl, rfl⟩ (Laid.zero _ _ _) c2
  have c11 : Steps p.tables e below (s₁.setTop (entryFrame m #[.ref b, .int (Int32.ofNat o), .ref d, .int (Int32.ofNat q), .int (Int32.ofNat len)] 7)) (T9.setTop (mkF m 46 #[.val (.ref b), .val (.int (Int32.ofNat (o + len))), .val (.ref d), .val (.int (Int32.ofNat (q + len))), .val (.int (Int32.ofNat len)), .val (.int (Int32.ofNat len)), z9] [.int (Int32.ofNat len)])) := g9.trans (by
    refine XS.iload X9.here hexec rfl (hb hbytes d3) rfl ?_
    refine XS.iload X9.here hexec rfl (hb hbytes d5) rfl ?_
    refine XS.icmpYes X9.here hexec rfl (pc0 := 7) rfl (hb hbytes d7) rfl (ii_ge_t (nlt32 (by omega) (Nat.le_refl _))) (by decide) rfl ?_
    refine XS.iload X9.here hexec rfl (hb hbytes d44) rfl ?_
    exact Steps.refl _)
  exact ⟨T9, some (.int (Int32.ofNat len)), _, _, _, X9, by simp, rfl, rfl, (fun h => by cases h), ⟨rfl, B9, p9.from hh0, f9⟩, fun fs hl => c11.trans (X9.ireturnOut hexec hret rfl (Or.inl rfl) (hb hbytes d46) hl)⟩
end Cmp5
namespace Cmp3
def yN : MethodName := ⟨"java/lang/StringUTF16", "compress", "([CII)[B"⟩
abbrev yB : ByteArray := jdk_52_method_16_code
theorem d0 : decode yB 0 = .ok (.iload_n 2, 1) := by decide +kernel
theorem d1 : decode yB 1 = .ok (.newarray .byte, 2) := by decide +kernel
theorem d3 : decode yB 3 = .ok (.astore_n 3, 1) := by decide +kernel
theorem d4 : decode yB 4 = .ok (.aload_n 0, 1) := by decide +kernel
theorem d5 : decode yB 5 = .ok (.iload_n 1, 1) := by decide +kernel
theorem d6 : decode yB 6 = .ok (.aload_n 3, 1) := by decide +kernel
theorem d7 : decode yB 7 = .ok (.iconst 0, 1) := by decide +kernel
theorem d8 : decode yB 8 = .ok (.iload_n 2, 1) := by decide +kernel
theorem d9 : decode yB 9 = .ok (.invokestatic 115, 3) := by decide +kernel
theorem d12 : decode yB 12 = .ok (.istore 4, 2) := by decide +kernel
theorem d14 : decode yB 14 = .ok (.iload 4, 2) := by decide +kernel
theorem d16 : decode yB 16 = .ok (.iload_n 2, 1) := by decide +kernel
theorem d17 : decode yB 17 = .ok (.if_icmp (.eq) 40, 3) := by decide +kernel
theorem d57 : decode yB 57 = .ok (.aload_n 3, 1) := by decide +kernel
theorem d58 : decode yB 58 = .ok (.areturn, 1) := by decide +kernel
def site : List Cond := [.arrayClass .byte, Cmp5.tab] ++ staticW U16 115 Cmp5.yN
def tab : Cond := tabOf yN yB 6 (some (.array .byte)) site
def P (b : Addr) (A : Cell) (o len : Nat) (args : Array Value) (s : State) : Prop := args = #[.ref b, .int (Int32.ofNat o), .int (Int32.ofNat len)] ∧ Ch b A s ∧ o + len ≤ A.slots.size ∧ len ≤ 536870912 ∧ ∀ i, i < len → ¬ 255 < cv A (o + i)
def E (b : Addr) (A : Cell) (o len : Nat) (r : Option Value) (s u : State) : Prop := NewArr .byte "[B" len (fun j => .int (lo8 (cv A (o + j)))) r s u ∧ u.heap.size = s.heap.size + 1
/-- no char of the range above 255: a new byte[] of their low bytes -/
theorem law (l : Launch) (b : Addr) (A : Cell) (o len : Nat) : Law l yN 3 3 1 18 yB 6 (some (.array .byte)) site (P b A o len) (E b A o len) [] 1 len := by
  refine Law.of_walk (plainFor_of_name (by decide +kernel)) (by decide +kernel) (by decide +kernel) (by decide) (fun _ _ h => by rw [h.1]; rfl) (fun _ U U' hal hh h => ⟨h.1, h.2.1.mv hal hh, h.2.2⟩) (fun r U U' V V' h1 hal h2 h => ⟨NewArr.mv r U U' V V' h1 hal h2 h.1, by rw [h1, h2]; exact h.2⟩) ?_
  intro p e s m args below meth c s₁ X0 hexec hbytes hml hret hlk hnm hown hh0 W hP
  obtain ⟨rfl, hA, l1, l2, hp⟩ := hP
  have a31 := hA.1.2.2.2
  have c1 : Steps p.tables e below (s₁.setTop (entryFrame m #[.ref b, .int (Int32.ofNat o), .int (Int32.ofNat len)] 6)) (s₁.setTop (mkF m 0 #[.val (.ref b), .val (.int (Int32.ofNat o)), .val (.int (Int32.ofNat len)), .unset, .unset, .unset] [])) := entry rfl
  have c2 : Steps p.tables e below (s₁.setTop (entryFrame m #[.ref b, .int (Int32.ofNat o), .int (Int32.ofNat len)] 6)) (s₁.setTop (mkF m 1 #[.val (.ref b), .val (.int (Int32.ofNat o)), .val (.int (Int32.ofNat len)), .unset, .unset, .unset] [.int (Int32.ofNat len)])) := c1.trans (by
    refine XS.iloadN X0.here hexec rfl (hb hbytes d0) rfl ?_
    exact Steps.refl _)
  obtain ⟨T3, B3, X3, ba3, bs3, bv3, bh3, bf3, st3⟩ := X0.anew hexec (atype := .byte) (wk W (.arrayClass .byte)) rfl (by show len * 1 ≤ _; omega) (by omega) (g := (mkF m 1 #[.val (.ref b), .val (.int (Int32.ofNat o)), .val (.int (Int32.ofNat len)), .unset, .unset, .unset] [.int (Int32.ofNat len)])) rfl (hb hbytes d1) (rest := []) rfl (Nat.le_refl _) (by show 0 + len ≤ len; omega)
  rw [hh0] at ba3 st3
  have kp3 : XT.Kept s T3 := (XT.Kept.of_eq hh0).push bh3
  have hA3 := hA.keep X3.warmed.alike (kp3 _ _ hA.1.1)
  have hne : b ≠ s.heap.size := hA.1.ne
  have c4 : Steps p.tables e below (s₁.setTop (entryFrame m #[.ref b, .int (Int32.ofNat o), .int (Int32.ofNat len)] 6)) (T3.setTop (mkF m 3 #[.val (.ref b), .val (.int (Int32.ofNat o)), .val (.int (Int32.ofNat len)), .unset, .unset, .unset] [.ref s.heap.size])) := c2.trans (st3 _ (Steps.refl _))
  have c5 : Steps p.tables e below (s₁.setTop (entryFrame m #[.ref b, .int (Int32.ofNat o), .int (Int32.ofNat len)] 6)) (T3.setTop (mkF m 9 #[.val (.ref b), .val (.int (Int32.ofNat o)), .val (.int (Int32.ofNat len)), .val (.ref s.heap.size), .unset, .unset] [.int (Int32.ofNat len), .int 0, .ref s.heap.size, .int (Int32.ofNat o), .ref b])) := c4.trans (by
    refine XS.astoreN X3.here hexec rfl (hb hbytes d3) rfl rfl rfl ?_
    refine XS.aloadN X3.here hexec rfl (hb hbytes d4) rfl rfl ?_
    refine XS.iloadN X3.here hexec rfl (hb hbytes d5) rfl ?_
    refine XS.aloadN X3.here hexec rfl (hb hbytes d6) rfl rfl ?_
    refine iconstV X3.here hexec rfl 0 (hb hbytes d7) (by decide) ?_
    refine XS.iloadN X3.here hexec rfl (hb hbytes d8) rfl ?_
    exact Steps.refl _)
  obtain ⟨v6, T6, X6, E6, g6⟩ := X3.callS hexec (Cmp5.law l b A s.heap.size B3 o 0 len) hown (wks W (staticW U16 115 Cmp5.yN)) (wk W Cmp5.tab) (W := 0) (Nat.le_of_ble_eq_true rfl) (Nat.le_of_ble_eq_true rfl) (Nat.le_refl _) (by show 0 + len + 0 ≤ len; omega) (g := (mkF m 9 #[.val (.ref b), .val (.int (Int32.ofNat o)), .val (.int (Int32.ofNat len)), .val (.ref s.heap.size), .unset, .unset] [.int (Int32.ofNat len), .int (Int32.ofNat 0), .ref s.heap.size, .int (Int32.ofNat o), .ref b])) rfl (by rw [hml]; rfl) c5 (argsL := [.ref b, .int (Int32.ofNat o), .ref s.heap.size, .int (Int32.ofNat 0), .int (Int32.ofNat len)]) (rest := []) rfl rfl (by show 2 * 0 + 0 ≤ _; decide) (hb hbytes d9) (⟨rfl, hA3, ba3, hne, l1, by rw [bs3]; simp, hp⟩)
  obtain ⟨rfl, B6, p6, f6⟩ := E6
  have c7 : Steps p.tables e below (s₁.setTop (entryFrame m #[.ref b, .int (Int32.ofNat o), .int (Int32.ofNat len)] 6)) (T6.setTop (mkF m 12 #[.val (.ref b), .val (.int (Int32.ofNat o)), .val (.int (Int32.ofNat len)), .val (.ref s.heap.size), .unset, .unset] [.int (Int32.ofNat len)])) := g6
  have c8 : Steps p.tables e below (s₁.setTop (entryFrame m #[.ref b, .int (Int32.ofNat o), .int (Int32.ofNat len)] 6)) (T6.setTop (mkF m 58 #[.val (.ref b), .val (.int (Int32.ofNat o)), .val (.int (Int32.ofNat len)), .val (.ref s.heap.size), .val (.int (Int32.ofNat len)), .unset] [.ref s.heap.size])) := c7.trans (by
    refine XS.istore X6.here hexec rfl (hb hbytes d12) rfl rfl ?_
    refine XS.iload X6.here hexec rfl (hb hbytes d14) rfl ?_
    refine XS.iloadN X6.here hexec rfl (hb hbytes d16) rfl ?_
    refine XS.icmpYes X6.here hexec rfl (pc0 := 17) rfl (hb hbytes d17) rfl (ii_eq_t rfl) (by decide) rfl ?_
    refine XS.aloadN X6.here hexec rfl (hb hbytes d57) rfl rfl ?_
    exact Steps.refl _)
  have X8 := X6.wide (L' := []) (cells' := 1) (slots' := len) (fun x hx hlt => by
    simp only [List.nil_append, copyLocs, List.mem_map, List.mem_range] at hx
    obtain ⟨i, -, rfl⟩ := hx
    exact absurd hlt (Nat.lt_irrefl _)) (Nat.le_refl _) (by omega)
  exact ⟨T6, some (.ref s.heap.size), _, _, _, X8, rfl, rfl, rfl, (fun h => by cases h), ⟨⟨rfl, B6, ba3.like (X3.warmed.alike.symm.trans X6.warmed.alike) p6.1 f6.1 f6.2.1 f6.2.2.1, f6.2.1.trans bv3, by rw [X6.warmed.alike.findClass, f6.1]; exact bf3, by rw [f6.2.2.1, bs3]; simp, fun j hj => by rw [f6.2.2.2 j, if_pos (by omega)]; rfl, kp3.put p6 (Nat.le_refl _)⟩, by rw [p6.2.2, bh3, hh0]; simp⟩, fun fs hl => c8.trans (X8.areturnOut hexec rfl hret rfl (hb hbytes d58) hl)⟩
end Cmp3
namespace CodL
def yN : MethodName := ⟨"java/lang/StringUTF16", "coderFromArrayLen", "([BI)B"⟩
abbrev yB : ByteArray := jdk_52_method_15_code
theorem d0 : decode yB 0 = .ok (.iload_n 1, 1) := by decide +kernel
theorem d1 : decode yB 1 = .ok (.aload_n 0, 1) := by decide +kernel
theorem d2 : decode yB 2 = .ok (.arraylength, 1) := by decide +kernel
theorem d3 : decode yB 3 = .ok (.isub, 1) := by decide +kernel
theorem d4 : decode yB 4 = .ok (.bipush 31, 2) := by decide +kernel
theorem d6 : decode yB 6 = .ok (.iushr, 1) := by decide +kernel
theorem d7 : decode yB 7 = .ok (.i2b, 1) := by decide +kernel
theorem d8 : decode yB 8 = .ok (.ireturn, 1) := by decide +kernel
def site : List Cond := []
def tab : Cond := tabOf yN yB 2 (some .byte) site
def P (d : Addr) (B : Cell) (args : Array Value) (s : State) : Prop := args = #[.ref d, .int (Int32.ofNat B.slots.size)] ∧ Arr .byte d B s
def E (r : Option Value) (s u : State) : Prop := XT.PureE (some (.int 0)) r s u
/-- an array as long as the number of chars: LATIN1 -/
theorem law (l : Launch) (d : Addr) (B : Cell) : Law l yN 2 2 0 0 yB 2 (some .byte) site (P d B) E [] 0 0 := by
  refine Law.of_walk (plainFor_of_name (by decide +kernel)) (by decide +kernel) (by decide +kernel) (by decide) (fun _ _ h => by rw [h.1]; rfl) (fun _ U U' hal hh h => ⟨h.1, h.2.mv hal hh⟩) (fun r U U' V V' h1 hal h2 h => XT.PureE.mv r U U' V V' h1 hal h2 h) ?_
  intro p e s m args below meth c s₁ X0 hexec hbytes hml hret hlk hnm hown hh0 W hP
  obtain ⟨rfl, hB⟩ := hP
  have hB0 := hB.mv X0.warmed.alike hh0
  have c1 : Steps p.tables e below (s₁.setTop (entryFrame m #[.ref d, .int (Int32.ofNat B.slots.size)] 2)) (s₁.setTop (mkF m 0 #[.val (.ref d), .val (.int (Int32.ofNat B.slots.size))] [])) := entry rfl
  have c2 : Steps p.tables e below (s₁.setTop (entryFrame m #[.ref d, .int (Int32.ofNat B.slots.size)] 2)) (s₁.setTop (mkF m 2 #[.val (.ref d), .val (.int (Int32.ofNat B.slots.size))] [.ref d, .int (Int32.ofNat B.slots.size)])) := c1.trans (by
    refine XS.iloadN X0.here hexec rfl (hb hbytes d0) rfl ?_
    refine XS.aloadN X0.here hexec rfl (hb hbytes d1) rfl rfl ?_
    exact Steps.refl _)
  have c3 : Steps p.tables e below (s₁.setTop (entryFrame m #[.ref d, .int (Int32.ofNat B.slots.size)] 2)) (s₁.setTop (mkF m 8 #[.val (.ref d), .val (.int (Int32.ofNat B.slots.size))] [.int (lo8 (ushr (Int32.ofNat B.slots.size - Int32.ofNat B.slots.size) 31))])) := c2.trans (by
    refine X0.alen hexec hB0 rfl rfl (hb hbytes d2) ?_
    refine XS.isub X0.here hexec rfl (hb hbytes d3) rfl ?_
    refine bipushV X0.here hexec rfl 31 (hb hbytes d4) (by decide) ?_
    refine iushr X0.here hexec rfl (hb hbytes d6) rfl ?_
    refine i2b X0.here hexec rfl (hb hbytes d7) rfl ?_
    exact Steps.refl _)
  have e0 : lo8 (ushr (Int32.ofNat B.slots.size - Int32.ofNat B.slots.size) 31) = 0 := by rw [Int32.sub_self]; decide
  rw [e0] at c3
  exact ⟨s₁, some (.int 0), _, _, _, X0, rfl, rfl, rfl, (fun h => by cases h), ⟨rfl, hh0⟩, fun fs hl => c3.trans (X0.ireturnOut hexec hret rfl (Or.inr (Or.inr (Or.inl rfl))) (hb hbytes d8) hl)⟩
end CodL
/-- the String at a is Latin-1 over a new byte[] (the heap's one new cell): the low bytes of the len chars of A from o on; every cell but a is kept -/
def Got (a : Addr) (D : Cell) (fV fC : Field) (A : Cell) (o len : Nat) (r : Option Value) (s u : State) : Prop := r = none ∧ ∃ D' V : Cell, Blank "java/lang/String" a D' u ∧ Same D D' [fV.slot, fC.slot] ∧ D'.slots[fV.slot]? = some (.ref s.heap.size) ∧ D'.slots[fC.slot]? = some (.int 0) ∧ Arr .byte s.heap.size V u ∧ V.vm = .none ∧ u.vm.findClass "[B" = some V.cls ∧ V.slots.size = len ∧ (∀ j, j < len → V.slots[j]? = some (.int (lo8 (cv A (o + j))))) ∧ (∀ (y : Addr) (c : Cell), y ≠ a → s.heap[y]? = some c → u.heap[y]? = some c) ∧ u.heap.size = s.heap.size + 1
theorem Got.mv {a : Addr} {D A : Cell} {fV fC : Field} {o len : Nat} : ∀ r (U U' V V' : State), U'.heap = U.heap → V.vm.Alike V'.vm → V'.heap = V.heap → Got a D fV fC A o len r U V → Got a D fV fC A o len r U' V' :=
  fun r U U' V V' h1 hal h2 ⟨e0, D', X, a1, a2, a3, a4, a5, a6, a7, a8, a9, a10, a11⟩ => ⟨e0, D', X, a1.mv hal h2, a2, by rw [h1]; exact a3, a4, by rw [h1]; exact a5.mv hal h2, a6, by rw [hal.findClass]; exact a7, a8, a9, by rw [h1, h2]; exact a10, by rw [h1, h2]; exact a11⟩
namespace New4
def yN : MethodName := ⟨"java/lang/String", "<init>", "([CIILjava/lang/Void;)V"⟩
abbrev yB : ByteArray := jdk_42_method_149_code
theorem d0 : decode yB 0 = .ok (.aload_n 0, 1) := by decide +kernel
theorem d1 : decode yB 1 = .ok (.invokespecial 1, 3) := by decide +kernel
theorem d4 : decode yB 4 = .ok (.iload_n 3, 1) := by decide +kernel
theorem d5 : decode yB 5 = .ok (.ifCond (.ne) 22, 3) := by decide +kernel
theorem d27 : decode yB 27 = .ok (.getstatic 38, 3) := by decide +kernel
theorem d30 : decode yB 30 = .ok (.ifCond (.eq) 28, 3) := by decide +kernel
theorem d33 : decode yB 33 = .ok (.aload_n 1, 1) := by decide +kernel
theorem d34 : decode yB 34 = .ok (.iload_n 2, 1) := by decide +kernel
theorem d35 : decode yB 35 = .ok (.iload_n 3, 1) := by decide +kernel
theorem d36 : decode yB 36 = .ok (.invokestatic 177, 3) := by decide +kernel
theorem d39 : decode yB 39 = .ok (.astore 5, 2) := by decide +kernel
theorem d41 : decode yB 41 = .ok (.aload_n 0, 1) := by decide +kernel
theorem d42 : decode yB 42 = .ok (.aload 5, 2) := by decide +kernel
theorem d44 : decode yB 44 = .ok (.iload_n 3, 1) := by decide +kernel
theorem d45 : decode yB 45 = .ok (.invokestatic 47, 3) := by decide +kernel
theorem d48 : decode yB 48 = .ok (.putfield 15, 3) := by decide +kernel
theorem d51 : decode yB 51 = .ok (.aload_n 0, 1) := by decide +kernel
theorem d52 : decode yB 52 = .ok (.aload 5, 2) := by decide +kernel
theorem d54 : decode yB 54 = .ok (.putfield 9, 3) := by decide +kernel
theorem d57 : decode yB 57 = .ok (.return_, 1) := by decide +kernel
def site : List Cond := [.fieldLink "java/lang/String" 38 "java/lang/String" "COMPACT_STRINGS" "Z", Cmp3.tab, CodL.tab, .laysFinal "java/lang/String" "java/lang/String" "value" "[B", .fieldLink "java/lang/String" 9 "java/lang/String" "value" "[B", .laysFinal "java/lang/String" "java/lang/String" "coder" "B", .fieldLink "java/lang/String" 15 "java/lang/String" "coder" "B"] ++ objW "java/lang/String" 1 ++ staticW "java/lang/String" 177 Cmp3.yN ++ staticW "java/lang/String" 47 CodL.yN
def tab : Cond := tabOf yN yB 6 none site
def P (a : Addr) (D : Cell) (fV fC : Field) (b : Addr) (A : Cell) (z : Int32) (o len : Nat) (args : Array Value) (s : State) : Prop := args = #[.ref a, .ref b, .int (Int32.ofNat o), .int (Int32.ofNat len), .null] ∧ Blank "java/lang/String" a D s ∧ Found "java/lang/String" "value" "[B" fV s ∧ Found "java/lang/String" "coder" "B" fC s ∧ Ch b A s ∧ StaticIs s "java/lang/String" "COMPACT_STRINGS" "Z" (.int z) ∧ ¬ z = 0 ∧ 0 < len ∧ o + len ≤ A.slots.size ∧ len ≤ 536870912 ∧ ∀ i, i < len → ¬ 255 < cv A (o + i)
def E (a : Addr) (D : Cell) (fV fC : Field) (A : Cell) (o len : Nat) (r : Option Value) (s u : State) : Prop := Got a D fV fC A o len r s u
/-- len > 0, no char of the range above 255: a Latin-1 String of their low bytes -/
theorem law (l : Launch) (a : Addr) (D : Cell) (fV fC : Field) (b : Addr) (A : Cell) (z : Int32) (o len : Nat) : Law l yN 5 4 2 35 yB 6 none site (P a D fV fC b A z o len) (E a D fV fC A o len) [⟨a, fC.slot⟩, ⟨a, fV.slot⟩] 1 len := by
  refine Law.of_walk (plainFor_of_name (by decide +kernel)) (by decide +kernel) (by decide +kernel) (by decide) (fun _ _ h => by rw [h.1]; rfl) (fun _ U U' hal hh h => ⟨h.1, h.2.1.mv hal hh, h.2.2.1.al hal, h.2.2.2.1.al hal, h.2.2.2.2.1.mv hal hh, h.2.2.2.2.2.1.there hal hh, h.2.2.2.2.2.2⟩) (fun r U U' V V' h1 hal h2 h => Got.mv r U U' V V' h1 hal h2 h) ?_
  intro p e s m args below meth c s₁ X0 hexec hbytes hml hret hlk hnm hown hh0 W hP
  obtain ⟨rfl, hB, f1, f2, hA, s1, hz, l0, l1, l2, hp⟩ := hP
  have a31 := hA.1.2.2.2
  have c1 : Steps p.tables e below (s₁.setTop (entryFrame m #[.ref a, .ref b, .int (Int32.ofNat o), .int (Int32.ofNat len), .null] 6)) (s₁.setTop (mkF m 0 #[.val (.ref a), .val (.ref b), .val (.int (Int32.ofNat o)), .val (.int (Int32.ofNat len)), .val .null, .unset] [])) := entry rfl
  have c2 : Steps p.tables e below (s₁.setTop (entryFrame m #[.ref a, .ref b, .int (Int32.ofNat o), .int (Int32.ofNat len), .null] 6)) (s₁.setTop (mkF m 1 #[.val (.ref a), .val (.ref b), .val (.int (Int32.ofNat o)), .val (.int (Int32.ofNat len)), .val .null, .unset] [.ref a])) := c1.trans (by
    refine XS.aloadN X0.here hexec rfl (hb hbytes d0) rfl rfl ?_
    exact Steps.refl _)
  obtain ⟨T3, X3, q3, st3⟩ := X0.oinit hexec hown (wks W (objW "java/lang/String" 1)) (g := (mkF m 1 #[.val (.ref a), .val (.ref b), .val (.int (Int32.ofNat o)), .val (.int (Int32.ofNat len)), .val .null, .unset] [.ref a])) rfl (by rw [hml]; rfl) (rest := []) rfl (hb hbytes d1) (W := 0) (by show 2 * 0 + 0 ≤ _; decide) (Nat.le_of_ble_eq_true rfl) (Nat.le_of_ble_eq_true rfl)
  have hh3 := q3.trans hh0
  have c4 : Steps p.tables e below (s₁.setTop (entryFrame m #[.ref a, .ref b, .int (Int32.ofNat o), .int (Int32.ofNat len), .null] 6)) (T3.setTop (mkF m 27 #[.val (.ref a), .val (.ref b), .val (.int (Int32.ofNat o)), .val (.int (Int32.ofNat len)), .val .null, .unset] [])) := (c2.trans (st3 _ (Steps.refl _))).trans (by
    refine XS.iloadN X3.here hexec rfl (hb hbytes d4) rfl ?_
    refine XS.ifYes X3.here hexec rfl (pc0 := 5) rfl (hb hbytes d5) rfl (i0_ne_t (nz32 (by omega) l0)) (by decide) rfl ?_
    exact Steps.refl _)
  obtain ⟨T5, X5, q5, st5⟩ := X3.sget hexec hown (wk W (.fieldLink "java/lang/String" 38 "java/lang/String" "COMPACT_STRINGS" "Z")) s1 (fun _ _ h => by rw [hh3]; exact h) (g := (mkF m 27 #[.val (.ref a), .val (.ref b), .val (.int (Int32.ofNat o)), .val (.int (Int32.ofNat len)), .val .null, .unset] [])) rfl (hb hbytes d27)
  have hh5 := q5.trans hh3
  have c6 : Steps p.tables e below (s₁.setTop (entryFrame m #[.ref a, .ref b, .int (Int32.ofNat o), .int (Int32.ofNat len), .null] 6)) (T5.setTop (mkF m 30 #[.val (.ref a), .val (.ref b), .val (.int (Int32.ofNat o)), .val (.int (Int32.ofNat len)), .val .null, .unset] [.int z])) := c4.trans (st5 _ (Steps.refl _))
  have c7 : Steps p.tables e below (s₁.setTop (entryFrame m #[.ref a, .ref b, .int (Int32.ofNat o), .int (Int32.ofNat len), .null] 6)) (T5.setTop (mkF m 36 #[.val (.ref a), .val (.ref b), .val (.int (Int32.ofNat o)), .val (.int (Int32.ofNat len)), .val .null, .unset] [.int (Int32.ofNat len), .int (Int32.ofNat o), .ref b])) := c6.trans (by
    refine XS.ifNo X5.here hexec rfl (hb hbytes d30) rfl (i0_eq_f hz) ?_
    refine XS.aloadN X5.here hexec rfl (hb hbytes d33) rfl rfl ?_
    refine XS.iloadN X5.here hexec rfl (hb hbytes d34) rfl ?_
    refine XS.iloadN X5.here hexec rfl (hb hbytes d35) rfl ?_
    exact Steps.refl _)
  obtain ⟨v8, T8, X8, E8, g8⟩ := X5.callS hexec (Cmp3.law l b A o len) hown (wks W (staticW "java/lang/String" 177 Cmp3.yN)) (wk W Cmp3.tab) (W := 0) (Nat.le_of_ble_eq_true rfl) (Nat.le_of_ble_eq_true rfl) (Nat.le_refl _) (by show 0 + len ≤ len; omega) (g := (mkF m 36 #[.val (.ref a), .val (.ref b), .val (.int (Int32.ofNat o)), .val (.int (Int32.ofNat len)), .val .null, .unset] [.int (Int32.ofNat len), .int (Int32.ofNat o), .ref b])) rfl (by rw [hml]; rfl) c7 (argsL := [.ref b, .int (Int32.ofNat o), .int (Int32.ofNat len)]) (rest := []) rfl rfl (by show 2 * 0 + 0 ≤ _; decide) (hb hbytes d36) (⟨rfl, hA.mv X5.warmed.alike hh5, l1, l2, hp⟩)
  obtain ⟨e8, z8⟩ := E8
  obtain ⟨rfl, N, n1, n2, n3, n4, n5, n6⟩ := NewArr.mv _ T5 s _ _ hh5.symm (Vm.Alike.refl _) rfl e8
  rw [hh5] at z8
  have hB1 := hB.keep X8.warmed.alike (n6 _ _ hB.1)
  have hne : s.heap.size ≠ a := (Nat.ne_of_lt (Array.getElem?_eq_some_iff.mp hB.1).1).symm
  have c9 : Steps p.tables e below (s₁.setTop (entryFrame m #[.ref a, .ref b, .int (Int32.ofNat o), .int (Int32.ofNat len), .null] 6)) (T8.setTop (mkF m 39 #[.val (.ref a), .val (.ref b), .val (.int (Int32.ofNat o)), .val (.int (Int32.ofNat len)), .val .null, .unset] [.ref s.heap.size])) := g8
  have c10 : Steps p.tables e below (s₁.setTop (entryFrame m #[.ref a, .ref b, .int (Int32.ofNat o), .int (Int32.ofNat len), .null] 6)) (T8.setTop (mkF m 45 #[.val (.ref a), .val (.ref b), .val (.int (Int32.ofNat o)), .val (.int (Int32.ofNat len)), .val .null, .val (.ref s.heap.size)] [.int (Int32.ofNat N.slots.size), .ref s.heap.size, .ref a])) := by
    have hc : Steps p.tables e below (s₁.setTop (entryFrame m #[.ref a, .ref b, .int (Int32.ofNat o), .int (Int32.ofNat len), .null] 6)) (T8.setTop (mkF m 45 #[.val (.ref a), .val (.ref b), .val (.int (Int32.ofNat o)), .val (.int (Int32.ofNat len)), .val .null, .val (.ref s.heap.size)] [.int (Int32.ofNat len), .ref s.heap.size, .ref a])) := c9.trans (by
      refine XS.astore X8.here hexec rfl (hb hbytes d39) rfl rfl rfl ?_
      refine XS.aloadN X8.here hexec rfl (hb hbytes d41) rfl rfl ?_
      refine XS.aload X8.here hexec rfl (hb hbytes d42) rfl rfl ?_
      refine XS.iloadN X8.here hexec rfl (hb hbytes d44) rfl ?_
      exact Steps.refl _)
    rw [n4]; exact hc
  obtain ⟨v11, T11, X11, E11, g11⟩ := X8.callS hexec (CodL.law l s.heap.size N) hown (wks W (staticW "java/lang/String" 47 CodL.yN)) (wk W CodL.tab) (W := 1) (Nat.le_of_ble_eq_true rfl) (Nat.le_of_ble_eq_true rfl) (Nat.le_refl _) (by show 0 + len + 0 ≤ len; omega) (g := (mkF m 45 #[.val (.ref a), .val (.ref b), .val (.int (Int32.ofNat o)), .val (.int (Int32.ofNat len)), .val .null, .val (.ref s.heap.size)] [.int (Int32.ofNat N.slots.size), .ref s.heap.size, .ref a])) rfl (by rw [hml]; rfl) c10 (argsL := [.ref s.heap.size, .int (Int32.ofNat N.slots.size)]) (rest := [.ref a]) rfl rfl (by show 2 * 0 + (1 + 0) ≤ _; decide) (hb hbytes d45) (⟨rfl, n1⟩)
  obtain ⟨rfl, q11⟩ := E11
  have hB11 := hB1.mv (X8.warmed.alike.symm.trans X11.warmed.alike) q11
  have c12 : Steps p.tables e below (s₁.setTop (entryFrame m #[.ref a, .ref b, .int (Int32.ofNat o), .int (Int32.ofNat len), .null] 6)) (T11.setTop (mkF m 48 #[.val (.ref a), .val (.ref b), .val (.int (Int32.ofNat o)), .val (.int (Int32.ofNat len)), .val .null, .val (.ref s.heap.size)] [.int 0, .ref a])) := g11
  obtain ⟨T13, X13, p13, bl13, sl13, st13⟩ := X11.finit hexec hown (wk W (.fieldLink "java/lang/String" 15 "java/lang/String" "coder" "B")) (Or.inr ⟨_, (wk W (.laysFinal "java/lang/String" "java/lang/String" "coder" "B"))⟩) (Or.inl ⟨rfl, hnm⟩) f2 (Or.inl rfl) hB11 (t := .byte) (by decide +kernel) rfl (g := (mkF m 48 #[.val (.ref a), .val (.ref b), .val (.int (Int32.ofNat o)), .val (.int (Int32.ofNat len)), .val .null, .val (.ref s.heap.size)] [.int 0, .ref a])) rfl (rest := []) rfl (hb hbytes d48)
  have c14 : Steps p.tables e below (s₁.setTop (entryFrame m #[.ref a, .ref b, .int (Int32.ofNat o), .int (Int32.ofNat len), .null] 6)) (T13.setTop (mkF m 54 #[.val (.ref a), .val (.ref b), .val (.int (Int32.ofNat o)), .val (.int (Int32.ofNat len)), .val .null, .val (.ref s.heap.size)] [.ref s.heap.size, .ref a])) := (c12.trans (st13 _ (Steps.refl _))).trans (by
    refine XS.aloadN X13.here hexec rfl (hb hbytes d51) rfl rfl ?_
    refine XS.aload X13.here hexec rfl (hb hbytes d52) rfl rfl ?_
    exact Steps.refl _)
  obtain ⟨T15, X15, p15, bl15, sl15, st15⟩ := X13.finit hexec hown (wk W (.fieldLink "java/lang/String" 9 "java/lang/String" "value" "[B")) (Or.inr ⟨_, (wk W (.laysFinal "java/lang/String" "java/lang/String" "value" "[B"))⟩) (Or.inl ⟨rfl, hnm⟩) f1 (Or.inl rfl) bl13 (t := (.array .byte)) (by decide +kernel) rfl (g := (mkF m 54 #[.val (.ref a), .val (.ref b), .val (.int (Int32.ofNat o)), .val (.int (Int32.ofNat len)), .val .null, .val (.ref s.heap.size)] [.ref s.heap.size, .ref a])) rfl (rest := []) rfl (hb hbytes d54)
  have c16 : Steps p.tables e below (s₁.setTop (entryFrame m #[.ref a, .ref b, .int (Int32.ofNat o), .int (Int32.ofNat len), .null] 6)) (T15.setTop (mkF m 57 #[.val (.ref a), .val (.ref b), .val (.int (Int32.ofNat o)), .val (.int (Int32.ofNat len)), .val .null, .val (.ref s.heap.size)] [])) := c14.trans (st15 _ (Steps.refl _))
  have ap := apart (Or.inr ⟨_, (wk W (.laysFinal "java/lang/String" "java/lang/String" "value" "[B"))⟩) (Or.inr ⟨_, (wk W (.laysFinal "java/lang/String" "java/lang/String" "coder" "B"))⟩) f1 f2 (t₁ := .array .byte) (t₂ := .byte) (by decide +kernel) (by decide +kernel) (by decide)
  have al := X8.warmed.alike.symm.trans X15.warmed.alike
  have n7 : T11.heap[s.heap.size]? = some N := by rw [q11]; exact n1.1
  exact ⟨T15, none, _, _, _, X15, by simp, rfl, by omega, (fun _ => rfl), ⟨rfl, _, N, bl15, ((Same.refl D _).set _ (by simp)).set _ (by simp), sl15, (Cell.slots_setSlot_ne _ ap).trans sl13, n1.keep al (p15.other hne (p13.other hne n7)), n2, by rw [al.findClass]; exact n3, n4, n5, fun y c h1 h2 => p15.other h1 (p13.other h1 (by rw [q11]; exact n6 y c h2)), by rw [p15.2.2, p13.2.2, q11]; exact z8⟩, fun fs hl => c16.trans (X15.returnOut hexec hret (hb hbytes d57) hl)⟩
end New4
namespace New1
def yN : MethodName := ⟨"java/lang/String", "<init>", "([C)V"⟩
abbrev yB : ByteArray := jdk_42_method_3_code
theorem d0 : decode yB 0 = .ok (.aload_n 0, 1) := by decide +kernel
theorem d1 : decode yB 1 = .ok (.aload_n 1, 1) := by decide +kernel
theorem d2 : decode yB 2 = .ok (.iconst 0, 1) := by decide +kernel
theorem d3 : decode yB 3 = .ok (.aload_n 1, 1) := by decide +kernel
theorem d4 : decode yB 4 = .ok (.arraylength, 1) := by decide +kernel
theorem d5 : decode yB 5 = .ok (.aconst_null, 1) := by decide +kernel
theorem d6 : decode yB 6 = .ok (.invokespecial 27, 3) := by decide +kernel
theorem d9 : decode yB 9 = .ok (.return_, 1) := by decide +kernel
def site : List Cond := [New4.tab] ++ initW "java/lang/String" 27 New4.yN
def tab : Cond := tabOf yN yB 2 none site
def P (a : Addr) (D : Cell) (fV fC : Field) (b : Addr) (A : Cell) (z : Int32) (args : Array Value) (s : State) : Prop := args = #[.ref a, .ref b] ∧ Blank "java/lang/String" a D s ∧ Found "java/lang/String" "value" "[B" fV s ∧ Found "java/lang/String" "coder" "B" fC s ∧ Ch b A s ∧ StaticIs s "java/lang/String" "COMPACT_STRINGS" "Z" (.int z) ∧ ¬ z = 0 ∧ 0 < A.slots.size ∧ A.slots.size ≤ 536870912 ∧ ∀ i, i < A.slots.size → ¬ 255 < cv A i
def E (a : Addr) (D : Cell) (fV fC : Field) (A : Cell) (r : Option Value) (s u : State) : Prop := Got a D fV fC A 0 A.slots.size r s u
/-- new String(chars), not empty, no char above 255: a Latin-1 String of their low bytes -/
theorem law (l : Launch) (a : Addr) (D : Cell) (fV fC : Field) (b : Addr) (A : Cell) (z : Int32) : Law l yN 2 1 3 52 yB 2 none site (P a D fV fC b A z) (E a D fV fC A) [⟨a, fC.slot⟩, ⟨a, fV.slot⟩] 1 A.slots.size := by
  refine Law.of_walk (plainFor_of_name (by decide +kernel)) (by decide +kernel) (by decide +kernel) (by decide) (fun _ _ h => by rw [h.1]; rfl) (fun _ U U' hal hh h => ⟨h.1, h.2.1.mv hal hh, h.2.2.1.al hal, h.2.2.2.1.al hal, h.2.2.2.2.1.mv hal hh, h.2.2.2.2.2.1.there hal hh, h.2.2.2.2.2.2⟩) (fun r U U' V V' h1 hal h2 h => Got.mv r U U' V V' h1 hal h2 h) ?_
  intro p e s m args below meth c s₁ X0 hexec hbytes hml hret hlk hnm hown hh0 W hP
  obtain ⟨rfl, hB, f1, f2, hA, s1, hz, l0, l2, hp⟩ := hP
  have c1 : Steps p.tables e below (s₁.setTop (entryFrame m #[.ref a, .ref b] 2)) (s₁.setTop (mkF m 0 #[.val (.ref a), .val (.ref b)] [])) := entry rfl
  have c2 : Steps p.tables e below (s₁.setTop (entryFrame m #[.ref a, .ref b] 2)) (s₁.setTop (mkF m 6 #[.val (.ref a), .val (.ref b)] [.null, .int (Int32.ofNat A.slots.size), .int 0, .ref b, .ref a])) := c1.trans (by
    refine XS.aloadN X0.here hexec rfl (hb hbytes d0) rfl rfl ?_
    refine XS.aloadN X0.here hexec rfl (hb hbytes d1) rfl rfl ?_
    refine iconstV X0.here hexec rfl 0 (hb hbytes d2) (by decide) ?_
    refine XS.aloadN X0.here hexec rfl (hb hbytes d3) rfl rfl ?_
    refine X0.alen hexec (hA.1.mv X0.warmed.alike hh0) rfl rfl (hb hbytes d4) ?_
    refine XS.aconstNull X0.here hexec rfl (hb hbytes d5) ?_
    exact Steps.refl _)
  obtain ⟨v3, T3, X3, E3, g3⟩ := X0.callN hexec (New4.law l a D fV fC b A z 0 A.slots.size) rfl hown (wks W (initW "java/lang/String" 27 New4.yN)) (W New4.tab (by simp only [site, List.mem_cons, List.mem_append, true_or, or_true])) (W := 0) (Nat.le_of_ble_eq_true rfl) (Nat.le_of_ble_eq_true rfl) (Nat.le_refl _) (by show 0 + A.slots.size ≤ A.slots.size; omega) (g := (mkF m 6 #[.val (.ref a), .val (.ref b)] [.null, .int (Int32.ofNat A.slots.size), .int (Int32.ofNat 0), .ref b, .ref a])) rfl (by rw [hml]; rfl) c2 (argsL := [.ref b, .int (Int32.ofNat 0), .int (Int32.ofNat A.slots.size), .null]) (rest := []) rfl rfl (by show 2 * 0 + 0 ≤ _; decide) (hb hbytes d6) (⟨rfl, hB.mv X0.warmed.alike hh0, f1.al X0.warmed.alike, f2.al X0.warmed.alike, hA.mv X0.warmed.alike hh0, s1.there X0.warmed.alike hh0, hz, l0, by omega, l2, fun i hi => by rw [Nat.zero_add]; exact hp i hi⟩)
  have e0 := Got.mv _ s₁ s _ _ hh0.symm (Vm.Alike.refl _) rfl E3
  obtain rfl := e0.1
  have c4 : Steps p.tables e below (s₁.setTop (entryFrame m #[.ref a, .ref b] 2)) (T3.setTop (mkF m 9 #[.val (.ref a), .val (.ref b)] [])) := g3
  exact ⟨T3, none, _, _, _, X3, by simp, rfl, by omega, (fun _ => rfl), e0, fun fs hl => c4.trans (X3.returnOut hexec hret (hb hbytes d9) hl)⟩
theorem pays {l : Launch} {R : Room} {p : Program} {e : Env} {below : List Frame} {s : State} {sargs : Array Value} {len W : Nat} (a : Addr) (D : Cell) (fV fC : Field) (b : Addr) (A : Cell) (z : Int32) (htab : tab.before sargs s = true) (hfr : 4 ≤ R.frames) (hlo : W + 65 ≤ R.locals) :
    Back l R p e below s sargs yN len W (fun A₁ a₁ => A₁.cells + 1 ≤ R.cells ∧ A₁.slots + A.slots.size ≤ R.slots ∧ P a D fV fC b A z a₁ A₁.U) (fun A₁ _ v₁ B₁ => E a D fV fC A v₁ A₁.U B₁.U ∧ B₁.locs = A₁.locs ++ [⟨a, fC.slot⟩, ⟨a, fV.slot⟩] ∧ B₁.cells = A₁.cells + 1 ∧ B₁.slots = A₁.slots + A.slots.size) :=
  (law l a D fV fC b A z).pays htab hfr (by omega)
end New1
/-- the byte, read back as charAt reads it, is the char -/
theorem lo8_mask {x : Int32} (h0 : ¬ x < 0) (h1 : ¬ 255 < x) : lo8 x &&& 255 = x := by
  have t : ∀ k : Fin 256, lo8 (Int32.ofNat k.val) &&& 255 = Int32.ofNat k.val := by decide +kernel
  rw [Int32.lt_iff_toInt_lt] at h0 h1
  have e0 : (0 : Int32).toInt = 0 := rfl
  have e1 : (255 : Int32).toInt = 255 := rfl
  obtain ⟨k, hk⟩ : ∃ k : Nat, x.toInt = k := ⟨x.toInt.toNat, by omega⟩
  have hx : x = Int32.ofNat k := Int32.toInt_inj.mp (by rw [hk, Int32.toInt_ofNat_small (by omega)])
  rw [hx]
  exact t ⟨k, by omega⟩
end StrChars
namespace StrChars.Road
open Jvm Sem ClassFile Op Lib Jvm.Stand Jvm.Free Jvm.Free.XT
open Jvm.Lib.Cold (StaticIs)
abbrev ST : String := "java/lang/String"
/-- every table word that New1's law asks, flat -/
abbrev words : List Jvm.Cond := [.code New1.yN New1.yB 2 none, .initialized ST, .methodLink ST 27 New4.yN, .instanceMethod New4.yN,
  .code New4.yN New4.yB 6 none, .fieldLink ST 38 ST "COMPACT_STRINGS" "Z", .laysFinal ST ST "value" "[B", .fieldLink ST 9 ST "value" "[B", .laysFinal ST ST "coder" "B", .fieldLink ST 15 ST "coder" "B",
  .methodLink ST 1 Lib.objectInit, .instanceMethod Lib.objectInit, .code Lib.objectInit ⟨#[0xb1]⟩ 1 none, .methodLink ST 177 Cmp3.yN, .static Cmp3.yN, .methodLink ST 47 CodL.yN, .static CodL.yN,
  .code Cmp3.yN Cmp3.yB 6 (some (.array .byte)), .initialized U16, .arrayClass .byte, .methodLink U16 115 Cmp5.yN, .static Cmp5.yN, .code Cmp5.yN Cmp5.yB 7 (some .int), .code CodL.yN CodL.yB 2 (some .byte)]
theorem tab_of {a : Array Value} {s : State} (h : ∀ w ∈ words, w.before a s = true) : New1.tab.before a s = true := by
  have h5 : Cmp5.tab.before a s = true := unparts (wk h (.code Cmp5.yN Cmp5.yB 7 (some .int))) (wks h (.initialized Cmp5.yN.cls :: Cmp5.site))
  have hc : CodL.tab.before a s = true := unparts (wk h (.code CodL.yN CodL.yB 2 (some .byte))) (wks h (.initialized CodL.yN.cls :: CodL.site))
  have q5 : ∀ w ∈ Cmp5.tab :: words, w.before a s = true := fun w hw => (List.mem_cons.mp hw).elim (fun e => e ▸ h5) (h w)
  have h3 : Cmp3.tab.before a s = true := unparts (wk q5 (.code Cmp3.yN Cmp3.yB 6 (some (.array .byte)))) (wks q5 (.initialized Cmp3.yN.cls :: Cmp3.site))
  have q3 : ∀ w ∈ Cmp3.tab :: CodL.tab :: words, w.before a s = true := fun w hw => (List.mem_cons.mp hw).elim (fun e => e ▸ h3) fun hw => (List.mem_cons.mp hw).elim (fun e => e ▸ hc) (h w)
  have h4 : New4.tab.before a s = true := unparts (wk q3 (.code New4.yN New4.yB 6 none)) (wks q3 (.initialized New4.yN.cls :: New4.site))
  have q4 : ∀ w ∈ New4.tab :: words, w.before a s = true := fun w hw => (List.mem_cons.mp hw).elim (fun e => e ▸ h4) (h w)
  exact unparts (wk q4 (.code New1.yN New1.yB 2 none)) (wks q4 (.initialized New1.yN.cls :: New1.site))
/-- the words ride from the start Z to the walk's own state -/
theorem moved {Z s : State} {a0 args : Array Value} (hZ : Z.Warmed39 s.vm) (hw : ∀ d ∈ words, d.before a0 Z = true) : ∀ d ∈ words, d.before args s = true := fun d hd => by
  have q := hw d hd
  have t : ∀ d ∈ words, d = .arrayClass .byte ∨ (d.onTables && d.keepsFace) = true := by decide +kernel
  rcases t d hd with rfl | t
  · exact RoadKit.mvA hZ q
  · exact RoadKit.mv hZ q t
/-- WHAT COMES BACK, over the tables of the start Z: h the heap at the call, h' behind it -/
def Q (Z : State) (x : Addr) (A : Cell) (h : Heap) (v : Option Value) (h' : Heap) (L : List Loc) : Prop := v = none ∧ (∀ y ∈ L, y.base = x) ∧ RoadKit.Keep h h' [x] ∧ h'.size = h.size + 1 ∧ RoadKit.Exa Z h' x ST ∧ RoadKit.Fld Z h' x ST "value" "[B" (.ref h.size) ∧ RoadKit.Fld Z h' x ST "coder" "B" (.int 0) ∧
  (∃ V : Cell, RoadKit.Arr Z h' h.size V .byte ∧ V.vm = .none ∧ Z.vm.findClass "[B" = some V.cls ∧ V.slots.size = A.slots.size ∧ ∀ j, j < A.slots.size → V.slots[j]? = some (.int (lo8 (cv A j)))) ∧
  ∀ (O n d : String) (w : Value), RoadKit.Fld Z h x O n d w → RoadKit.slotOf Z O n d ≠ RoadKit.slotOf Z ST "value" "[B" → RoadKit.slotOf Z O n d ≠ RoadKit.slotOf Z ST "coder" "B" → RoadKit.Fld Z h' x O n d w
/-- **new String(chars) AT A CALL, IN THE ROAD'S FORM**: for specialBack behind newO: x the fresh String, b the char[] with the cell A -/
theorem back {p : Program} {l : Launch} {e : Env} {R : Room} {s : State} {args : Array Value} {below : List Frame} {len W : Nat} {Z : State} {a0 : Array Value} {h : Heap} (hZ : Z.Warmed39 s.vm) (hw : ∀ d ∈ words, d.before a0 Z = true) {kI : Nat} (wi : (Jvm.Cond.instantiable ST kI).before a0 Z = true)
    {x b : Addr} {A : Cell} {z : Int32} {v0 c0 : Value} (E : RoadKit.Exa Z h x ST) (V : RoadKit.Fld Z h x ST "value" "[B" v0) (C : RoadKit.Fld Z h x ST "coder" "B" c0) (K : RoadKit.Arr Z h b A .char) (hty : Typed .char A) (S : RoadKit.Sta Z h ST "COMPACT_STRINGS" "Z" (.int z)) (hz : ¬ z = 0)
    (l0 : 0 < A.slots.size) (l2 : A.slots.size ≤ 536870912) (hp : ∀ i, i < A.slots.size → ¬ 255 < cv A i) (hfr : 4 ≤ R.frames) (hlo : W + 65 ≤ R.locals) :
    Back l R p e below s args New1.yN len W (fun P a => a = #[.ref x, .ref b] ∧ P.U.heap = h ∧ P.cells + 1 ≤ R.cells ∧ P.slots + A.slots.size ≤ R.slots)
      (fun P _ v B => ∃ L, Q Z x A h v B.U.heap L ∧ B.locs = P.locs ++ L ∧ B.cells = P.cells + 1 ∧ B.slots = P.slots + A.slots.size) := by
  intro m meth c P g ig mk a X hg hsize hdg hW hn hp'
  obtain ⟨rfl, rfl, r1, r2⟩ := hp'
  have al : Z.vm.Alike P.U.vm := hZ.alike.trans X.warmed.alike
  obtain ⟨D, cfV, kV, iV, fV, hD, gV, stV, knV, obV, asV, slV⟩ := id V
  obtain ⟨D', cfC, kC, iC, fC, hD', gC, stC, -, -, asC, slC⟩ := id C
  cases hD.symm.trans hD'
  obtain ⟨D2, kD, e1, e2, e3, e4, e5⟩ := id E
  cases hD.symm.trans e1
  obtain ⟨c2, k2, i1, i2, i3, -⟩ := Cond.instantiable_spec wi
  cases e2.symm.trans i1
  cases e3.symm.trans i2
  obtain ⟨kU, u1, u2⟩ := al.2.2 _ _ e3
  have hB : Blank ST x D P.U := ⟨hD, ⟨knV, fun q hq => by rw [hq] at obV; cases obV⟩, by rw [al.findClass]; exact e2, kU, u1, by rw [u2]; exact i3, by rw [u2]; exact e5 i3⟩
  have F1 : Found ST "value" "[B" fV P.U := ⟨SBG.found_only al ⟨cfV, kV, iV, gV⟩, stV⟩
  have F2 : Found ST "coder" "B" fC P.U := ⟨SBG.found_only al ⟨cfC, kC, iC, gC⟩, stC⟩
  have hA : Ch b A P.U := ⟨⟨K.1, State.isArrayOf_alike al K.2.1, K.2.2, by omega⟩, hty⟩
  have hS : StaticIs P.U ST "COMPACT_STRINGS" "Z" (.int z) := by
    obtain ⟨cfS, iS, kS, fS, st, cS, t1, t2, t3, t4, t5, t6, t7⟩ := S
    exact StaticIs.there (s := { Z with heap := P.U.heap }) ⟨cfS, iS, kS, fS, st, cS, t1, t2, t3, t4, t5, (fun q => by rw [q] at t6; cases t6), t7⟩ al rfl
  obtain ⟨v, B, X', ⟨⟨hv, E', V', q1, q2, q3, q4, q5, q6, q7, q8, q9, q10, q11⟩, hl, hc, hs⟩, st⟩ := New1.pays x D fV fC b A z (tab_of (moved hZ hw)) hfr hlo m meth c P g ig mk _ X hg hsize hdg hW hn ⟨r1, r2, rfl, hB, F1, F2, hA, hS, hz, l0, l2, hp⟩
  have al' : Z.vm.Alike B.U.vm := hZ.alike.trans X'.warmed.alike
  have hsz : E'.slots.size = D.slots.size := by
    obtain ⟨-, -, -, kB, w1, w2, w3⟩ := q1
    obtain ⟨kB', y1, y2⟩ := al'.2.2 _ _ e3
    rw [q2.2.1] at w1
    cases w1.symm.trans y1
    rw [w3, e5 i3, y2]
  refine ⟨v, B, X', ⟨_, ⟨hv, ?_, ⟨by omega, fun y cy hy hn' => q10 y cy (by simpa using hn') hy, fun y cy hy => ?_⟩, q11, ⟨E', _, q1.1, by rw [q2.2.1]; exact e2, by rw [q2.2.1]; exact e3, by rw [q2.1]; exact obV, fun _ => by rw [hsz]; exact e5 i3⟩,
    ⟨E', cfV, kV, iV, fV, q1.1, gV, stV, by rw [q2.1]; exact knV, by rw [q2.1]; exact obV, by rw [q2.2.1]; exact asV, q3⟩, ⟨E', cfC, kC, iC, fC, q1.1, gC, stC, by rw [q2.1]; exact knV, by rw [q2.1]; exact obV, by rw [q2.2.1]; exact asC, q4⟩,
    ⟨V', ⟨q5.1, State.isArrayOf_alike al'.symm q5.2.1, q5.2.2.1⟩, q6, by rw [← al'.findClass]; exact q7, q8, fun j hj => by have := q9 j hj; rwa [Nat.zero_add] at this⟩, fun O n d w F n1 n2 => ?_⟩, hl, hc, hs⟩, st⟩
  · intro y hy
    simp only [List.mem_cons, List.not_mem_nil, or_false] at hy
    rcases hy with rfl | rfl <;> rfl
  · by_cases q : y = x
    · subst q
      cases hD.symm.trans hy
      exact ⟨E', q1.1, q2.2.1, q2.1, hsz⟩
    · exact ⟨cy, q10 y cy q hy, rfl, rfl, rfl⟩
  · obtain ⟨D3, cf, k, i, f, g1, g2, g3, g4, g5, g6, g7⟩ := F
    cases hD.symm.trans g1
    simp only [RoadKit.slotOf, g2, gV, gC, Option.map_some, Option.getD_some] at n1 n2
    exact ⟨E', cf, k, i, f, q1.1, g2, g3, by rw [q2.1]; exact g4, by rw [q2.1]; exact g5, by rw [q2.2.1]; exact g6, by rw [q2.2.2 f.slot (by simp [n1, n2])]; exact g7⟩
end StrChars.Road
namespace StrChars.Road
open Jvm Sem ClassFile Op Lib Jvm.Stand Jvm.Free Jvm.Free.XT
/-- WHAT COMES BACK, the byte[] as a list of values -/
def QA (Z : State) (x : Addr) (zn : Int32) (cs : List Int32) (h : Heap) (v : Option Value) (h' : Heap) (L : List Loc) : Prop := v = none ∧ (∀ y ∈ L, y.base = x) ∧ RoadKit.Keep h h' [x] ∧ h'.size = h.size + 1 ∧ RoadKit.Exa Z h' x ST ∧ RoadKit.Fld Z h' x ST "value" "[B" (.ref h.size) ∧ RoadKit.Fld Z h' x ST "coder" "B" (.int 0) ∧
  (∃ kb, Z.vm.findClass "[B" = some kb ∧ RoadKit.Arv Z h' h.size kb .byte zn (cs.map fun c => .int (lo8 c)) (.int 0)) ∧
  ∀ (O n d : String) (w : Value), RoadKit.Fld Z h x O n d w → RoadKit.slotOf Z O n d ≠ RoadKit.slotOf Z ST "value" "[B" → RoadKit.slotOf Z O n d ≠ RoadKit.slotOf Z ST "coder" "B" → RoadKit.Fld Z h' x O n d w
/-- **new String(chars) AT A CALL, THE ARRAYS AS LISTS**: the char[] at b holds cs, not empty, no char above 255 -/
theorem backArv {p : Program} {l : Launch} {e : Env} {R : Room} {s : State} {args : Array Value} {below : List Frame} {len W : Nat} {Z : State} {a0 : Array Value} {h : Heap} (hZ : Z.Warmed39 s.vm) (hw : ∀ d ∈ words, d.before a0 Z = true) {kI : Nat} (wi : (Jvm.Cond.instantiable ST kI).before a0 Z = true)
    {x b : Addr} {k : ClassId} {zn z : Int32} {cs : List Int32} {dv v0 c0 : Value} (E : RoadKit.Exa Z h x ST) (V : RoadKit.Fld Z h x ST "value" "[B" v0) (C : RoadKit.Fld Z h x ST "coder" "B" c0) (K : RoadKit.Arv Z h b k .char zn (cs.map Value.int) dv) (S : RoadKit.Sta Z h ST "COMPACT_STRINGS" "Z" (.int z)) (hz : ¬ z = 0)
    (hlen : zn.toNatClampNeg = cs.length) (h0 : 0 < cs.length) (hbig : cs.length ≤ 536870912) (hall : ∀ c ∈ cs, ¬ 255 < c) (hfr : 4 ≤ R.frames) (hlo : W + 65 ≤ R.locals) :
    Back l R p e below s args New1.yN len W (fun P a => a = #[.ref x, .ref b] ∧ P.U.heap = h ∧ P.cells + 1 ≤ R.cells ∧ P.slots + cs.length ≤ R.slots)
      (fun P _ v B => ∃ L, QA Z x zn cs h v B.U.heap L ∧ B.locs = P.locs ++ L ∧ B.cells = P.cells + 1 ∧ B.slots = P.slots + cs.length) := by
  obtain ⟨A, K1, K2, K3, K4, K5, K6⟩ := K
  have e : A.slots.size = cs.length := K3.trans hlen
  have hat : ∀ (i : Nat) (hi : i < cs.length), A.slots[i]? = some (.int cs[i]) := fun i hi => by rw [K5 i (by omega)]; simp [List.getD_eq_getElem?_getD, hi]
  have hcv : ∀ (i : Nat) (hi : i < cs.length), cv A i = cs[i] := fun i hi => by unfold cv; rw [hat i hi]
  have hty : Typed .char A := fun i v hv => by
    have hi : i < A.slots.size := (Array.getElem?_eq_some_iff.mp hv).1
    have q := K5 i hi
    rw [hv] at q
    rw [Option.some.inj q]
    exact K6 i hi
  refine Back.mono (back hZ hw wi E V C K1 hty S hz (by omega) (by omega) (fun i hi => by rw [hcv i (by omega)]; exact hall _ (List.getElem_mem _)) hfr hlo) (fun P a hp => ⟨hp.1, hp.2.1, hp.2.2.1, by rw [e]; exact hp.2.2.2⟩) (fun P a v B hp hq => ?_)
  obtain ⟨L, ⟨q1, q2, q3, q4, q5, q6, q7, ⟨V', v1, v2, v3, v4, v5⟩, q9⟩, hl, hc, hs⟩ := hq
  refine ⟨L, ⟨q1, q2, q3, q4, q5, q6, q7, ⟨V'.cls, v3, V', v1, rfl, by rw [v4, e, hlen], K4, fun i hi => ?_, fun i hi => ?_⟩, q9⟩, hl, hc, by rw [hs, e]⟩
  · have hi' : i < cs.length := by omega
    rw [v5 i (by omega), hcv i hi']; simp [List.getD_eq_getElem?_getD, hi']
  · have hi' : i < cs.length := by omega
    simp only [List.getD_eq_getElem?_getD, List.getElem?_map, List.getElem?_eq_getElem hi', Option.map_some, Option.getD_some]
    exact fits_lo8 _
end StrChars.Road
namespace StrChars.Road
open Jvm Sem ClassFile Op Lib Jvm.Stand Jvm.Free Jvm.Free.XT
/-- WHAT COMES BACK, in the writer's own shape -/
def QV (Z : State) (x : Addr) (N : Int32) (bs : List Int32) (h : Heap) (n0 : Nat) (v : Option Value) (h' : Heap) (L : List Loc) : Prop := v = none ∧ RoadKit.Fr n0 L ∧ RoadKit.Keep h h' [x] ∧ RoadKit.Exa Z h' x ST ∧ RoadKit.Fld Z h' x ST "coder" "B" (.int 0) ∧
  ∃ (t : Addr) (kb : ClassId), n0 ≤ t ∧ h.size ≤ t ∧ ¬ t = x ∧ RoadKit.Fld Z h' x ST "value" "[B" (.ref t) ∧ RoadKit.Arv Z h' t kb .byte N (bs.map Value.int) (.int 0)
/-- **new String(chars) AT A CALL, FOR THE WRITER**: a char[] of n known ints, each 0 to 255 -/
theorem backV {p : Program} {l : Launch} {e : Env} {R : Room} {s : State} {args : Array Value} {below : List Frame} {len W : Nat} {Z : State} {a0 : Array Value} {h : Heap} (hZ : Z.Warmed39 s.vm) (hw : ∀ d ∈ words, d.before a0 Z = true) {kI : Nat} (wi : (Jvm.Cond.instantiable ST kI).before a0 Z = true)
    {x b : Addr} {kC : ClassId} {cs bs : List Int32} {d v0 c0 : Value} {z N : Int32} {n n0 : Nat} (hx0 : n0 ≤ x) (hh0 : n0 ≤ h.size) (E : RoadKit.Exa Z h x ST) (V : RoadKit.Fld Z h x ST "value" "[B" v0) (C : RoadKit.Fld Z h x ST "coder" "B" c0) (K : RoadKit.Arv Z h b kC .char N (cs.map Value.int) d) (S : RoadKit.Sta Z h ST "COMPACT_STRINGS" "Z" (.int z)) (hz : ¬ z = 0)
    (hn : cs.length = n) (hN : N = Int32.ofNat n) (l0 : 0 < n) (l2 : n ≤ 4000) (hp : ∀ c ∈ cs, ¬ c < 0 ∧ ¬ (255 : Int32) < c) (hb : bs = cs.map (fun c => c.toInt8.toInt32)) (hfr : 4 ≤ R.frames) (hlo : W + 65 ≤ R.locals) :
    Back l R p e below s args (⟨"java/lang/String", "<init>", "([C)V"⟩ : MethodName) len W (fun P a => a = #[.ref x, .ref b] ∧ P.U.heap = h ∧ P.cells + 1 ≤ R.cells ∧ P.slots + n ≤ R.slots)
      (fun P _ v B => ∃ L, QV Z x N bs h n0 v B.U.heap L ∧ B.locs = P.locs ++ L ∧ B.cells = P.cells + 1 ∧ B.slots = P.slots + n) := by
  subst hn hN hb
  refine Back.mono (backArv hZ hw wi E V C K S hz (n32 (by omega)) l0 (by omega) (fun c hc => (hp c hc).2) hfr hlo) (fun P a hp => hp) (fun P a v B hp hq => ?_)
  obtain ⟨L, ⟨q1, q2, q3, q4, q5, q6, q7, ⟨kb, v1, v2⟩, q9⟩, hl, hc, hs⟩ := hq
  exact ⟨L, ⟨q1, fun y hy => by rw [q2 y hy]; exact hx0, q3, q5, q7, h.size, kb, hh0, Nat.le_refl _, Nat.ne_of_gt E.lt, q6, by rw [List.map_map]; exact v2⟩, hl, hc, hs⟩
end StrChars.Road
namespace StrChars
open Jvm Sem ClassFile Op Lib Jvm.Stand Jvm.Free.XT Jvm.Free.ALB Jvm.Free.JM Jvm.Free
open Jvm.Lib.Cold (StaticIs)
def hi8 (x : Int32) : Int32 := lo8 (x >>> ((8 : Int32) &&& 31))
/-- what StringUTF16.getChar makes of two bytes -/
def pairCh (u v : Int32) : Int32 := (((u &&& 255) <<< ((0 : Int32) &&& 31)) ||| ((v &&& 255) <<< ((8 : Int32) &&& 31))).toUInt32.toUInt16.toUInt32.toInt32
theorem shr0 (c : Int32) : c >>> ((0 : Int32) &&& 31) = c := by
  have e : ((0 : Int32) &&& 31) = 0 := by decide
  rw [e]
  apply Int32.toBitVec_inj.mp
  rw [Int32.toBitVec_shiftRight]
  have e1 : ((0 : Int32).toBitVec.smod 32) = 0#32 := by decide
  rw [e1, BitVec.sshiftRight_eq']
  exact BitVec.sshiftRight_zero
theorem lo8_and (x : Int32) : (lo8 x &&& 255).toBitVec.toNat = x.toBitVec.toNat % 256 := by
  have h : (lo8 x).toBitVec = (x.toBitVec.signExtend 8).signExtend 32 := by rw [lo8, Int8.toBitVec_toInt32, Int32.toBitVec_toInt8]
  rw [Int32.toBitVec_and, BitVec.toNat_and, h]
  have e : ((x.toBitVec.signExtend 8).signExtend 32).toNat % 256 = x.toBitVec.toNat % 256 := by
    rw [BitVec.toNat_signExtend]
    have hlt := x.toBitVec.isLt
    simp only [BitVec.toNat_setWidth, BitVec.toNat_signExtend]
    split <;> split <;> omega
  rw [← e]
  exact Nat.and_two_pow_sub_one_eq_mod _ 8
theorem pair_says {c : Int32} (h0 : ¬ c < 0) (h1 : ¬ 65535 < c) : pairCh (lo8 c) (hi8 c) = c := by
  rw [Int32.lt_iff_toInt_lt] at h0 h1
  have e0 : (0 : Int32).toInt = 0 := rfl
  have e1 : (65535 : Int32).toInt = 65535 := rfl
  have hc : c.toInt = c.toBitVec.toNat := by
    have := c.toBitVec.isLt
    have e : c.toInt = c.toBitVec.toInt := rfl
    rw [e] at h0 h1
    rw [e]
    rw [BitVec.toInt_eq_toNat_cond] at h0 h1 ⊢
    split at h0 <;> split <;> omega
  have hn : c.toBitVec.toNat < 65536 := by omega
  have a1 := lo8_and c
  have a2 : (hi8 c &&& 255).toBitVec.toNat = c.toBitVec.toNat / 256 := by
    rw [hi8, lo8_and]
    have e : ((8 : Int32) &&& 31) = 8 := by decide
    rw [e, Int32.toBitVec_shiftRight]
    have e2 : ((8 : Int32).toBitVec.smod 32) = 8#32 := by decide
    rw [e2, BitVec.sshiftRight_eq', BitVec.toNat_sshiftRight_of_msb_false (by rw [BitVec.msb_eq_false_iff_two_mul_lt]; omega)]
    show c.toBitVec.toNat >>> 8 % 256 = _
    rw [Nat.shiftRight_eq_div_pow]
    omega
  unfold pairCh
  apply Int32.toBitVec_inj.mp
  apply BitVec.eq_of_toNat_eq
  have f0 : ((0 : Int32) &&& 31) = 0 := by decide
  have f8 : ((8 : Int32) &&& 31) = 8 := by decide
  rw [f0, f8]
  have g : (((lo8 c &&& 255) <<< (0 : Int32)) ||| ((hi8 c &&& 255) <<< (8 : Int32))).toBitVec.toNat = c.toBitVec.toNat := by
    rw [Int32.toBitVec_or, Int32.toBitVec_shiftLeft, Int32.toBitVec_shiftLeft]
    have s0 : ((0 : Int32).toBitVec.smod 32) = 0#32 := by decide
    have s8 : ((8 : Int32).toBitVec.smod 32) = 8#32 := by decide
    rw [s0, s8, BitVec.toNat_or]
    simp only [BitVec.shiftLeft_eq', BitVec.toNat_shiftLeft, a1, a2]
    show (c.toBitVec.toNat % 256) <<< 0 % 2 ^ 32 ||| (c.toBitVec.toNat / 256) <<< 8 % 2 ^ 32 = _
    rw [Nat.shiftLeft_zero, Nat.mod_eq_of_lt (show c.toBitVec.toNat % 256 < 2 ^ 32 by omega), Nat.mod_eq_of_lt (show (c.toBitVec.toNat / 256) <<< 8 < 2 ^ 32 by rw [Nat.shiftLeft_eq]; omega), Nat.or_comm, ← Nat.shiftLeft_add_eq_or_of_lt (by omega), Nat.shiftLeft_eq]
    omega
  show BitVec.toNat (((((lo8 c &&& 255) <<< (0 : Int32)) ||| ((hi8 c &&& 255) <<< (8 : Int32))).toBitVec.setWidth 16).setWidth 32) = _
  rw [BitVec.toNat_setWidth, BitVec.toNat_setWidth, g]
  omega
end StrChars
namespace StrChars
open Jvm Sem ClassFile Op Lib Jvm.Stand Jvm.Free.XT Jvm.Free.ALB Jvm.Free.JM Jvm.Free
open Jvm.Lib.Cold (StaticIs)
theorem shr1 {n : Nat} (h : 2 * n < 2 ^ 31) : Int32.ofNat (2 * n) >>> ((1 : Int32) &&& 31) = Int32.ofNat n := by
  have e : ((1 : Int32) &&& 31) = 1 := by decide
  rw [e]
  apply Int32.toBitVec_inj.mp
  rw [Int32.toBitVec_shiftRight]
  have e1 : ((1 : Int32).toBitVec.smod 32) = 1#32 := by decide
  have hm : (BitVec.ofNat 32 (2 * n)).toNat = 2 * n := by rw [BitVec.toNat_ofNat, Nat.mod_eq_of_lt (by omega)]
  rw [e1, BitVec.sshiftRight_eq']
  apply BitVec.eq_of_toNat_eq
  show ((BitVec.ofNat 32 (2 * n)).sshiftRight 1).toNat = (BitVec.ofNat 32 n).toNat
  rw [BitVec.toNat_sshiftRight_of_msb_false (by rw [BitVec.msb_eq_false_iff_two_mul_lt, hm]; omega), hm, BitVec.toNat_ofNat, Nat.shiftRight_eq_div_pow]
  omega
/-- charAt's cast of a byte read back -/
def chr8 (u : Int32) : Int32 := (u &&& 255).toUInt32.toUInt16.toUInt32.toInt32
theorem chr8_lo8 {c : Int32} (h0 : ¬ c < 0) (h1 : ¬ 255 < c) : chr8 (lo8 c) = c := by
  have t : ∀ k : Fin 256, (Int32.ofNat k.val).toUInt32.toUInt16.toUInt32.toInt32 = Int32.ofNat k.val := by decide +kernel
  unfold chr8
  rw [lo8_mask h0 h1]
  rw [Int32.lt_iff_toInt_lt] at h0 h1
  have e0 : (0 : Int32).toInt = 0 := rfl
  have e1 : (255 : Int32).toInt = 255 := rfl
  obtain ⟨k, hk⟩ : ∃ k : Nat, c.toInt = k := ⟨c.toInt.toNat, by omega⟩
  have hx : c = Int32.ofNat k := Int32.toInt_inj.mp (by rw [hk, Int32.toInt_ofNat_small (by omega)])
  rw [hx]
  exact t ⟨k, by omega⟩
theorem narrow_ch {c : Int32} (h0 : ¬ c < 0) (h1 : ¬ 65535 < c) : narrow .char (.int c) = .int c := by
  have q : narrow .char (.int (pairCh (lo8 c) (hi8 c))) = .int (pairCh (lo8 c) (hi8 c)) := narrow_c _
  rwa [pair_says h0 h1] at q
/-- the array's cell V codes the n chars f 0 .. f (n - 1) by the coder cd, as the JDK does: coder 1 just where some char is above 255 -/
def Cod (cd : Int32) (n : Nat) (f : Nat → Int32) (V : Cell) : Prop := (cd = 0 ∧ V.slots.size = n ∧ ∀ j, j < n → V.slots[j]? = some (.int (lo8 (f j))) ∧ ¬ 255 < f j) ∨ (cd = 1 ∧ V.slots.size = 2 * n ∧ (∀ j, j < n → V.slots[2 * j]? = some (.int (lo8 (f j))) ∧ V.slots[2 * j + 1]? = some (.int (hi8 (f j)))) ∧ ∃ j, j < n ∧ 255 < f j)
theorem Cod.cd {cd : Int32} {n : Nat} {f : Nat → Int32} {V : Cell} (h : Cod cd n f V) : cd = 0 ∨ cd = 1 := h.imp (fun q => q.1) fun q => q.1
theorem Cod.len {cd : Int32} {n : Nat} {f : Nat → Int32} {V : Cell} (h : Cod cd n f V) (hs : V.slots.size < 2 ^ 31) : Int32.ofNat V.slots.size >>> (cd &&& 31) = Int32.ofNat n := by
  rcases h with ⟨rfl, h, -⟩ | ⟨rfl, h, -⟩
  · rw [shr0, h]
  · rw [h, shr1 (by omega)]
/-- **x is a String of the n chars f 0 .. f (n - 1)**, Latin-1 or UTF-16; its array at t has the cell V -/
def Txt (x t : Addr) (V : Cell) (cd : Int32) (n : Nat) (f : Nat → Int32) (U : State) : Prop := Exact "java/lang/String" x U ∧ Has x "java/lang/String" "value" "[B" (.ref t) U ∧ Has x "java/lang/String" "coder" "B" (.int cd) U ∧ XT.Arr .byte t V U ∧ Cod cd n f V ∧ ∀ j, j < n → ¬ f j < 0 ∧ ¬ 65535 < f j
theorem Txt.mv {x t : Addr} {V : Cell} {cd : Int32} {n : Nat} {f : Nat → Int32} {U U' : State} (h : Txt x t V cd n f U) (hal : U.vm.Alike U'.vm) (hh : U'.heap = U.heap) : Txt x t V cd n f U' := ⟨h.1.mv hal hh, h.2.1.mv hal hh, h.2.2.1.mv hal hh, h.2.2.2.1.mv hal hh, h.2.2.2.2⟩
namespace Cdr
def yN : MethodName := ⟨"java/lang/String", "coder", "()B"⟩
abbrev yB : ByteArray := jdk_42_method_152_code
theorem d0 : decode yB 0 = .ok (.getstatic 38, 3) := by decide +kernel
theorem d3 : decode yB 3 = .ok (.ifCond (.eq) 10, 3) := by decide +kernel
theorem d6 : decode yB 6 = .ok (.aload_n 0, 1) := by decide +kernel
theorem d7 : decode yB 7 = .ok (.getfield 15, 3) := by decide +kernel
theorem d10 : decode yB 10 = .ok (.goto 4, 3) := by decide +kernel
theorem d14 : decode yB 14 = .ok (.ireturn, 1) := by decide +kernel
def site : List Cond := [.fieldLink "java/lang/String" 38 "java/lang/String" "COMPACT_STRINGS" "Z", .fieldLink "java/lang/String" 15 "java/lang/String" "coder" "B"]
def tab : Cond := tabOf yN yB 1 (some .byte) site
def P (x : Addr) (cd z : Int32) (args : Array Value) (s : State) : Prop := args = #[.ref x] ∧ Has x "java/lang/String" "coder" "B" (.int cd) s ∧ (cd = 0 ∨ cd = 1) ∧ StaticIs s "java/lang/String" "COMPACT_STRINGS" "Z" (.int z) ∧ ¬ z = 0
def E (cd : Int32) (r : Option Value) (s u : State) : Prop := XT.PureE (some (.int cd)) r s u
theorem law (l : Launch) (x : Addr) (cd z : Int32) : Law l yN 1 0 0 0 yB 1 (some .byte) site (P x cd z) (E cd) [] 0 0 := by
  refine Law.of_walk (plainFor_of_name (by decide +kernel)) (by decide +kernel) (by decide +kernel) (by decide) (fun _ _ h => by rw [h.1]; rfl) (fun _ U U' hal hh h => ⟨h.1, h.2.1.mv hal hh, h.2.2.1, h.2.2.2.1.there hal hh, h.2.2.2.2⟩) (fun r U U' V V' h1 hal h2 h => XT.PureE.mv r U U' V V' h1 hal h2 h) ?_
  intro p e s m args below meth c s₁ X0 hexec hbytes hml hret hlk hnm hown hh0 W hP
  obtain ⟨rfl, hx, hc, s1, hz⟩ := hP
  have c1 : Steps p.tables e below (s₁.setTop (entryFrame m #[.ref x] 1)) (s₁.setTop (mkF m 0 #[.val (.ref x)] [])) := entry rfl
  obtain ⟨T2, X2, q2, st2⟩ := X0.sget hexec hown (wk W (.fieldLink "java/lang/String" 38 "java/lang/String" "COMPACT_STRINGS" "Z")) s1 (fun _ _ h => by rw [hh0]; exact h) (g := (mkF m 0 #[.val (.ref x)] [])) rfl (hb hbytes d0)
  have hh2 := q2.trans hh0
  have c3 : Steps p.tables e below (s₁.setTop (entryFrame m #[.ref x] 1)) (T2.setTop (mkF m 7 #[.val (.ref x)] [.ref x])) := (c1.trans (st2 _ (Steps.refl _))).trans (by
    refine XS.ifNo X2.here hexec rfl (hb hbytes d3) rfl (i0_eq_f hz) ?_
    refine XS.aloadN X2.here hexec rfl (hb hbytes d6) rfl rfl ?_
    exact Steps.refl _)
  obtain ⟨T4, X4, q4, st4⟩ := X2.hget hexec hown (wk W (.fieldLink "java/lang/String" 15 "java/lang/String" "coder" "B")) (hx.mv X2.warmed.alike hh2) (g := (mkF m 7 #[.val (.ref x)] [.ref x])) rfl (rest := []) rfl (hb hbytes d7)
  have c5 : Steps p.tables e below (s₁.setTop (entryFrame m #[.ref x] 1)) (T4.setTop (mkF m 14 #[.val (.ref x)] [.int cd])) := (c3.trans (st4 _ (Steps.refl _))).trans (by
    refine XS.goto X4.here hexec rfl (pc0 := 10) rfl (hb hbytes d10) (by decide) rfl ?_
    exact Steps.refl _)
  exact ⟨T4, some (.int cd), _, _, _, X4, rfl, rfl, rfl, (fun h => by cases h), ⟨rfl, q4.trans hh2⟩, fun fs hl => c5.trans (X4.ireturnOut hexec hret (by rcases hc with rfl | rfl <;> rfl) (Or.inr (Or.inr (Or.inl rfl))) (hb hbytes d14) hl)⟩
end Cdr
namespace Len
def yN : MethodName := ⟨"java/lang/String", "length", "()I"⟩
abbrev yB : ByteArray := jdk_42_method_54_code
theorem d0 : decode yB 0 = .ok (.aload_n 0, 1) := by decide +kernel
theorem d1 : decode yB 1 = .ok (.getfield 9, 3) := by decide +kernel
theorem d4 : decode yB 4 = .ok (.arraylength, 1) := by decide +kernel
theorem d5 : decode yB 5 = .ok (.aload_n 0, 1) := by decide +kernel
theorem d6 : decode yB 6 = .ok (.invokevirtual 335, 3) := by decide +kernel
theorem d9 : decode yB 9 = .ok (.ishr, 1) := by decide +kernel
theorem d10 : decode yB 10 = .ok (.ireturn, 1) := by decide +kernel
def site : List Cond := [.fieldLink "java/lang/String" 9 "java/lang/String" "value" "[B", Cdr.tab] ++ virtW "java/lang/String" 335 "java/lang/String" Cdr.yN Cdr.yN
def tab : Cond := tabOf yN yB 1 (some .int) site
def P (x t : Addr) (V : Cell) (cd : Int32) (n : Nat) (f : Nat → Int32) (z : Int32) (args : Array Value) (s : State) : Prop := args = #[.ref x] ∧ Txt x t V cd n f s ∧ StaticIs s "java/lang/String" "COMPACT_STRINGS" "Z" (.int z) ∧ ¬ z = 0
def E (n : Nat) (r : Option Value) (s u : State) : Prop := XT.PureE (some (.int (Int32.ofNat n))) r s u
/-- length() of a String of n chars, in either coding -/
theorem law (l : Launch) (x t : Addr) (V : Cell) (cd : Int32) (n : Nat) (f : Nat → Int32) (z : Int32) : Law l yN 1 0 1 13 yB 1 (some .int) site (P x t V cd n f z) (E n) [] 0 0 := by
  refine Law.of_walk (plainFor_of_name (by decide +kernel)) (by decide +kernel) (by decide +kernel) (by decide) (fun _ _ h => by rw [h.1]; rfl) (fun _ U U' hal hh h => ⟨h.1, h.2.1.mv hal hh, h.2.2.1.there hal hh, h.2.2.2⟩) (fun r U U' V V' h1 hal h2 h => XT.PureE.mv r U U' V V' h1 hal h2 h) ?_
  intro p e s m args below meth c s₁ X0 hexec hbytes hml hret hlk hnm hown hh0 W hP
  obtain ⟨rfl, hx, s1, hz⟩ := hP
  have v31 := hx.2.2.2.1.2.2.2
  have c1 : Steps p.tables e below (s₁.setTop (entryFrame m #[.ref x] 1)) (s₁.setTop (mkF m 1 #[.val (.ref x)] [.ref x])) := Steps.trans (entry rfl) (by
    show Steps p.tables e below (s₁.setTop (mkF m 0 #[.val (.ref x)] [])) _
    refine XS.aloadN X0.here hexec rfl (hb hbytes d0) rfl rfl ?_
    exact Steps.refl _)
  obtain ⟨T2, X2, q2, st2⟩ := X0.hget hexec hown (wk W (.fieldLink "java/lang/String" 9 "java/lang/String" "value" "[B")) (hx.mv X0.warmed.alike hh0).2.1 (g := (mkF m 1 #[.val (.ref x)] [.ref x])) rfl (rest := []) rfl (hb hbytes d1)
  have hh2 := q2.trans hh0
  have hx2 := hx.mv X2.warmed.alike hh2
  have c3 : Steps p.tables e below (s₁.setTop (entryFrame m #[.ref x] 1)) (T2.setTop (mkF m 6 #[.val (.ref x)] [.ref x, .int (Int32.ofNat V.slots.size)])) := (c1.trans (st2 _ (Steps.refl _))).trans (by
    refine X2.alen hexec hx2.2.2.2.1 rfl rfl (hb hbytes d4) ?_
    refine XS.aloadN X2.here hexec rfl (hb hbytes d5) rfl rfl ?_
    exact Steps.refl _)
  obtain ⟨v4, T4, X4, E4, g4⟩ := X2.callV hexec (Cdr.law l x cd z) hown (wks W (virtW "java/lang/String" 335 "java/lang/String" Cdr.yN Cdr.yN)) rfl (by decide) (wk W Cdr.tab) (W := 1) (Nat.le_of_ble_eq_true rfl) (Nat.le_of_ble_eq_true rfl) (Nat.le_refl _) (Nat.le_refl _) (hx2.1.fc X2.warmed.alike) hx2.1.is (g := (mkF m 6 #[.val (.ref x)] [.ref x, .int (Int32.ofNat V.slots.size)])) rfl (by rw [hml]; rfl) c3 (argsL := []) (rest := [.int (Int32.ofNat V.slots.size)]) rfl rfl (by show 2 * 0 + (1 + 0) ≤ _; decide) (hb hbytes d6) (⟨rfl, hx2.2.2.1, hx.2.2.2.2.1.cd, s1.there X2.warmed.alike hh2, hz⟩)
  obtain ⟨rfl, q4⟩ := E4
  have c5 : Steps p.tables e below (s₁.setTop (entryFrame m #[.ref x] 1)) (T4.setTop (mkF m 10 #[.val (.ref x)] [.int (Int32.ofNat V.slots.size >>> (cd &&& 31))])) := Steps.trans g4 (by
    refine ishr X4.here hexec rfl (hb hbytes d9) rfl ?_
    exact Steps.refl _)
  rw [hx.2.2.2.2.1.len v31] at c5
  exact ⟨T4, some (.int (Int32.ofNat n)), _, _, _, X4, rfl, rfl, rfl, (fun h => by cases h), ⟨rfl, q4.trans hh2⟩, fun fs hl => c5.trans (X4.ireturnOut hexec hret rfl (Or.inl rfl) (hb hbytes d10) hl)⟩
theorem pays {l : Launch} {R : Room} {p : Program} {e : Env} {below : List Frame} {s : State} {sargs : Array Value} {len W : Nat} (x t : Addr) (V : Cell) (cd : Int32) (n : Nat) (f : Nat → Int32) (z : Int32) (htab : tab.before sargs s = true) (hfr : 2 ≤ R.frames) (hlo : W + 25 ≤ R.locals) :
    Back l R p e below s sargs yN len W (fun A₁ a₁ => A₁.cells + 0 ≤ R.cells ∧ A₁.slots + 0 ≤ R.slots ∧ P x t V cd n f z a₁ A₁.U) (fun A₁ _ v₁ B₁ => E n v₁ A₁.U B₁.U ∧ B₁.locs = A₁.locs ++ [] ∧ B₁.cells = A₁.cells + 0 ∧ B₁.slots = A₁.slots + 0) :=
  (law l x t V cd n f z).pays htab hfr (by omega)
end Len
namespace IsL
def yN : MethodName := ⟨"java/lang/String", "isLatin1", "()Z"⟩
abbrev yB : ByteArray := jdk_42_method_154_code
theorem d0 : decode yB 0 = .ok (.getstatic 38, 3) := by decide +kernel
theorem d3 : decode yB 3 = .ok (.ifCond (.eq) 14, 3) := by decide +kernel
theorem d6 : decode yB 6 = .ok (.aload_n 0, 1) := by decide +kernel
theorem d7 : decode yB 7 = .ok (.getfield 15, 3) := by decide +kernel
theorem d10 : decode yB 10 = .ok (.ifCond (.ne) 7, 3) := by decide +kernel
theorem d13 : decode yB 13 = .ok (.iconst 1, 1) := by decide +kernel
theorem d14 : decode yB 14 = .ok (.goto 4, 3) := by decide +kernel
theorem d17 : decode yB 17 = .ok (.iconst 0, 1) := by decide +kernel
theorem d18 : decode yB 18 = .ok (.ireturn, 1) := by decide +kernel
def site : List Cond := [.fieldLink "java/lang/String" 38 "java/lang/String" "COMPACT_STRINGS" "Z", .fieldLink "java/lang/String" 15 "java/lang/String" "coder" "B"]
def tab : Cond := tabOf yN yB 1 (some .boolean) site
def P (x : Addr) (cd z : Int32) (args : Array Value) (s : State) : Prop := args = #[.ref x] ∧ Has x "java/lang/String" "coder" "B" (.int cd) s ∧ (cd = 0 ∨ cd = 1) ∧ StaticIs s "java/lang/String" "COMPACT_STRINGS" "Z" (.int z) ∧ ¬ z = 0
def E (cd : Int32) (r : Option Value) (s u : State) : Prop := XT.PureE (some (.int (1 - cd))) r s u
theorem law (l : Launch) (x : Addr) (cd z : Int32) : Law l yN 1 0 0 0 yB 1 (some .boolean) site (P x cd z) (E cd) [] 0 0 := by
  refine Law.of_walk (plainFor_of_name (by decide +kernel)) (by decide +kernel) (by decide +kernel) (by decide) (fun _ _ h => by rw [h.1]; rfl) (fun _ U U' hal hh h => ⟨h.1, h.2.1.mv hal hh, h.2.2.1, h.2.2.2.1.there hal hh, h.2.2.2.2⟩) (fun r U U' V V' h1 hal h2 h => XT.PureE.mv r U U' V V' h1 hal h2 h) ?_
  intro p e s m args below meth c s₁ X0 hexec hbytes hml hret hlk hnm hown hh0 W hP
  obtain ⟨rfl, hx, hc, s1, hz⟩ := hP
  have c1 : Steps p.tables e below (s₁.setTop (entryFrame m #[.ref x] 1)) (s₁.setTop (mkF m 0 #[.val (.ref x)] [])) := entry rfl
  obtain ⟨T2, X2, q2, st2⟩ := X0.sget hexec hown (wk W (.fieldLink "java/lang/String" 38 "java/lang/String" "COMPACT_STRINGS" "Z")) s1 (fun _ _ h => by rw [hh0]; exact h) (g := (mkF m 0 #[.val (.ref x)] [])) rfl (hb hbytes d0)
  have hh2 := q2.trans hh0
  have c3 : Steps p.tables e below (s₁.setTop (entryFrame m #[.ref x] 1)) (T2.setTop (mkF m 7 #[.val (.ref x)] [.ref x])) := (c1.trans (st2 _ (Steps.refl _))).trans (by
    refine XS.ifNo X2.here hexec rfl (hb hbytes d3) rfl (i0_eq_f hz) ?_
    refine XS.aloadN X2.here hexec rfl (hb hbytes d6) rfl rfl ?_
    exact Steps.refl _)
  obtain ⟨T4, X4, q4, st4⟩ := X2.hget hexec hown (wk W (.fieldLink "java/lang/String" 15 "java/lang/String" "coder" "B")) (hx.mv X2.warmed.alike hh2) (g := (mkF m 7 #[.val (.ref x)] [.ref x])) rfl (rest := []) rfl (hb hbytes d7)
  have c5 : Steps p.tables e below (s₁.setTop (entryFrame m #[.ref x] 1)) (T4.setTop (mkF m 10 #[.val (.ref x)] [.int cd])) := c3.trans (st4 _ (Steps.refl _))
  have c6 : Steps p.tables e below (s₁.setTop (entryFrame m #[.ref x] 1)) (T4.setTop (mkF m 18 #[.val (.ref x)] [.int (1 - cd)])) := by
    rcases hc with rfl | rfl
    · exact c5.trans (by
        refine XS.ifNo X4.here hexec rfl (hb hbytes d10) rfl (i0_ne_f rfl) ?_
        refine iconstV X4.here hexec rfl 1 (hb hbytes d13) (by decide) ?_
        refine XS.goto X4.here hexec rfl (pc0 := 14) rfl (hb hbytes d14) (by decide) rfl ?_
        exact Steps.refl _)
    · exact c5.trans (by
        refine XS.ifYes X4.here hexec rfl (pc0 := 10) rfl (hb hbytes d10) rfl (i0_ne_t (by decide)) (by decide) rfl ?_
        refine iconstV X4.here hexec rfl 0 (hb hbytes d17) (by decide) ?_
        exact Steps.refl _)
  exact ⟨T4, some (.int (1 - cd)), _, _, _, X4, rfl, rfl, rfl, (fun h => by cases h), ⟨rfl, q4.trans hh2⟩, fun fs hl => c6.trans (X4.ireturnOut hexec hret (by rcases hc with rfl | rfl <;> rfl) (Or.inr (Or.inl rfl)) (hb hbytes d18) hl)⟩
end IsL
namespace LChA
def yN : MethodName := ⟨"java/lang/StringLatin1", "charAt", "([BI)C"⟩
abbrev yB : ByteArray := jdk_43_method_2_code
theorem d0 : decode yB 0 = .ok (.iload_n 1, 1) := by decide +kernel
theorem d1 : decode yB 1 = .ok (.aload_n 0, 1) := by decide +kernel
theorem d2 : decode yB 2 = .ok (.arraylength, 1) := by decide +kernel
theorem d3 : decode yB 3 = .ok (.invokestatic 9, 3) := by decide +kernel
theorem d6 : decode yB 6 = .ok (.aload_n 0, 1) := by decide +kernel
theorem d7 : decode yB 7 = .ok (.iload_n 1, 1) := by decide +kernel
theorem d8 : decode yB 8 = .ok (.baload, 1) := by decide +kernel
theorem d9 : decode yB 9 = .ok (.sipush 255, 3) := by decide +kernel
theorem d12 : decode yB 12 = .ok (.iand, 1) := by decide +kernel
theorem d13 : decode yB 13 = .ok (.i2c, 1) := by decide +kernel
theorem d14 : decode yB 14 = .ok (.ireturn, 1) := by decide +kernel
def site : List Cond := [JO.Str_checkIndex.tab] ++ staticW "java/lang/StringLatin1" 9 JO.Str_checkIndex.yN
def tab : Cond := tabOf yN yB 2 (some .char) site
def P (t : Addr) (V : Cell) (i : Nat) (u : Int32) (fm : Value) (args : Array Value) (s : State) : Prop := args = #[.ref t, .int (Int32.ofNat i)] ∧ XT.Arr .byte t V s ∧ V.slots[i]? = some (.int u) ∧ (StaticIs s "jdk/internal/util/Preconditions" "SIOOBE_FORMATTER" "Ljava/util/function/BiFunction;" fm ∧ fm.isRef = true)
def E (u : Int32) (r : Option Value) (s w : State) : Prop := XT.PureE (some (.int (chr8 u))) r s w
theorem law (l : Launch) (t : Addr) (V : Cell) (i : Nat) (u : Int32) (fm : Value) : Law l yN 2 2 2 27 yB 2 (some .char) site (P t V i u fm) (E u) [] 0 0 := by
  refine Law.of_walk (plainFor_of_name (by decide +kernel)) (by decide +kernel) (by decide +kernel) (by decide) (fun _ _ h => by rw [h.1]; rfl) (fun _ U U' hal hh h => ⟨h.1, h.2.1.mv hal hh, h.2.2.1, h.2.2.2.1.there hal hh, h.2.2.2.2⟩) (fun r U U' V V' h1 hal h2 h => XT.PureE.mv r U U' V V' h1 hal h2 h) ?_
  intro p e s m args below meth c s₁ X0 hexec hbytes hml hret hlk hnm hown hh0 W hP
  obtain ⟨rfl, hV, hu, s1, rf⟩ := hP
  have v31 := hV.2.2.2
  have hi : i < V.slots.size := (Array.getElem?_eq_some_iff.mp hu).1
  have c1 : Steps p.tables e below (s₁.setTop (entryFrame m #[.ref t, .int (Int32.ofNat i)] 2)) (s₁.setTop (mkF m 0 #[.val (.ref t), .val (.int (Int32.ofNat i))] [])) := entry rfl
  have c2 : Steps p.tables e below (s₁.setTop (entryFrame m #[.ref t, .int (Int32.ofNat i)] 2)) (s₁.setTop (mkF m 3 #[.val (.ref t), .val (.int (Int32.ofNat i))] [.int (Int32.ofNat V.slots.size), .int (Int32.ofNat i)])) := c1.trans (by
    refine XS.iloadN X0.here hexec rfl (hb hbytes d0) rfl ?_
    refine XS.aloadN X0.here hexec rfl (hb hbytes d1) rfl rfl ?_
    refine X0.alen hexec (hV.mv X0.warmed.alike hh0) rfl rfl (hb hbytes d2) ?_
    exact Steps.refl _)
  obtain ⟨v3, T3, X3, E3, g3⟩ := X0.callS hexec (JO.Str_checkIndex.law l (Int32.ofNat i) (Int32.ofNat V.slots.size) fm) hown (wks W (staticW "java/lang/StringLatin1" 9 JO.Str_checkIndex.yN)) (wk W JO.Str_checkIndex.tab) (W := 0) (Nat.le_of_ble_eq_true rfl) (Nat.le_of_ble_eq_true rfl) (Nat.le_refl _) (Nat.le_refl _) (g := (mkF m 3 #[.val (.ref t), .val (.int (Int32.ofNat i))] [.int (Int32.ofNat V.slots.size), .int (Int32.ofNat i)])) rfl (by rw [hml]; rfl) c2 (argsL := [.int (Int32.ofNat i), .int (Int32.ofNat V.slots.size)]) (rest := []) rfl rfl (by show 2 * 0 + 0 ≤ _; decide) (hb hbytes d3) (⟨rfl, rf, s1.there X0.warmed.alike hh0, Int32.ofNat_not_neg (by omega), lt32 v31 hi⟩)
  obtain ⟨rfl, q3⟩ := E3
  have hh3 := q3.trans hh0
  have c4 : Steps p.tables e below (s₁.setTop (entryFrame m #[.ref t, .int (Int32.ofNat i)] 2)) (T3.setTop (mkF m 14 #[.val (.ref t), .val (.int (Int32.ofNat i))] [.int (chr8 u)])) := Steps.trans g3 (by
    refine XS.aloadN X3.here hexec rfl (hb hbytes d6) rfl rfl ?_
    refine XS.iloadN X3.here hexec rfl (hb hbytes d7) rfl ?_
    refine X3.aget hexec (hV.mv X3.warmed.alike hh3) rfl hu rfl rfl (hb hbytes d8) ?_
    refine sipushV X3.here hexec rfl 255 (hb hbytes d9) (by decide) ?_
    refine XS.iand X3.here hexec rfl (hb hbytes d12) rfl ?_
    refine i2c X3.here hexec rfl (hb hbytes d13) rfl ?_
    exact Steps.refl _)
  exact ⟨T3, some (.int (chr8 u)), _, _, _, X3, rfl, rfl, rfl, (fun h => by cases h), ⟨rfl, hh3⟩, fun fs hl => c4.trans (X3.ireturnOut hexec hret (narrow_c _) (Or.inr (Or.inr (Or.inr (Or.inl rfl)))) (hb hbytes d14) hl)⟩
end LChA
end StrChars
namespace StrChars.Road
open Jvm Sem ClassFile Op Lib Jvm.Stand Jvm.Free Jvm.Free.XT
open Jvm.Lib.Cold (StaticIs)
theorem consq {a : Array Value} {s : State} {c : Jvm.Cond} {L : List Jvm.Cond} (h0 : c.before a s = true) (h : ∀ w ∈ L, w.before a s = true) : ∀ w ∈ c :: L, w.before a s = true := fun w hw => (List.mem_cons.mp hw).elim (fun e => e ▸ h0) (h w)
/-- the words of String.length(), either coding -/
abbrev wordsLen : List Jvm.Cond := [.code Len.yN Len.yB 1 (some .int), .initialized ST, .fieldLink ST 9 ST "value" "[B", .fieldLink ST 38 ST "COMPACT_STRINGS" "Z", .fieldLink ST 15 ST "coder" "B", .code Cdr.yN Cdr.yB 1 (some .byte), .methodLink ST 335 Cdr.yN, .declares Cdr.yN, .selects ST Cdr.yN Cdr.yN, .instanceMethod Cdr.yN]
theorem tabLen_of {a : Array Value} {s : State} (h : ∀ w ∈ wordsLen, w.before a s = true) : Len.tab.before a s = true := by
  have hc : Cdr.tab.before a s = true := unparts (wk h (.code Cdr.yN Cdr.yB 1 (some .byte))) (wks h (.initialized Cdr.yN.cls :: Cdr.site))
  have q := consq hc h
  exact unparts (wk q (.code Len.yN Len.yB 1 (some .int))) (wks q (.initialized Len.yN.cls :: Len.site))
theorem movedLen {Z s : State} {a0 args : Array Value} (hZ : Z.Warmed39 s.vm) (hw : ∀ d ∈ wordsLen, d.before a0 Z = true) : ∀ d ∈ wordsLen, d.before args s = true := fun d hd => by
  have q := hw d hd
  have t : ∀ d ∈ wordsLen, d = .arrayClass .byte ∨ (d.onTables && d.keepsFace) = true := by decide +kernel
  rcases t d hd with rfl | t
  · exact RoadKit.mvA hZ q
  · exact RoadKit.mv hZ q t
/-- the bytes of the chars cs, low before high -/
def wideBytes : List Int32 → List Value
  | [] => []
  | c :: cs => .int (lo8 c) :: .int (hi8 c) :: wideBytes cs
theorem wide_lo (d : Value) : ∀ (cs : List Int32) (j : Nat), j < cs.length → (wideBytes cs).getD (2 * j) d = .int (lo8 (cs.getD j 0))
  | [], j, h => absurd h (Nat.not_lt_zero j)
  | c :: cs, 0, _ => rfl
  | c :: cs, j + 1, h => by
    have q := wide_lo d cs j (by simpa using h)
    rw [show 2 * (j + 1) = 2 * j + 1 + 1 from by omega]
    simpa [wideBytes] using q
theorem wide_hi (d : Value) : ∀ (cs : List Int32) (j : Nat), j < cs.length → (wideBytes cs).getD (2 * j + 1) d = .int (hi8 (cs.getD j 0))
  | [], j, h => absurd h (Nat.not_lt_zero j)
  | c :: cs, 0, _ => rfl
  | c :: cs, j + 1, h => by
    have q := wide_hi d cs j (by simpa using h)
    rw [show 2 * (j + 1) + 1 = 2 * j + 1 + 1 + 1 from by omega]
    simpa [wideBytes] using q
theorem low_at (d : Value) (cs : List Int32) (j : Nat) (h : j < cs.length) : (cs.map fun c => Value.int (lo8 c)).getD j d = .int (lo8 (cs.getD j 0)) := by
  simp [List.getD_eq_getElem?_getD, h]
/-- an array of N2 bytes vs codes the chars cs by the coder cd -/
def CodA (cs : List Int32) (cd N2 : Int32) (vs : List Value) : Prop := (cd = 0 ∧ N2 = Int32.ofNat cs.length ∧ vs = (cs.map fun c => Value.int (lo8 c)) ∧ ∀ c ∈ cs, ¬ 255 < c) ∨ (cd = 1 ∧ N2 = Int32.ofNat (2 * cs.length) ∧ vs = wideBytes cs ∧ ∃ c ∈ cs, 255 < c)
theorem CodA.cod {cs : List Int32} {cd N2 : Int32} {vs : List Value} {V : Cell} (h : CodA cs cd N2 vs) (hn : 2 * cs.length < 2 ^ 31) (hs : V.slots.size = N2.toNatClampNeg) (hv : RoadKit.Has V vs (.int 0)) : Cod cd cs.length (fun j => cs.getD j 0) V := by
  rcases h with ⟨rfl, rfl, rfl, h⟩ | ⟨rfl, rfl, rfl, c, hc, hw⟩
  · rw [n32 (by omega)] at hs
    exact Or.inl ⟨rfl, hs, fun j hj => ⟨by rw [hv j (by omega), low_at _ _ _ hj], by
      have e : cs.getD j 0 = cs[j] := by simp [List.getD_eq_getElem?_getD, hj]
      show ¬ 255 < cs.getD j 0
      rw [e]; exact h _ (List.getElem_mem _)⟩⟩
  · rw [n32 (by omega)] at hs
    obtain ⟨j, hj, rfl⟩ := List.getElem_of_mem hc
    exact Or.inr ⟨rfl, hs, fun j hj => ⟨by rw [hv _ (by omega), wide_lo _ _ _ hj], by rw [hv _ (by omega), wide_hi _ _ _ hj]⟩, j, hj, by
      have e : cs.getD j 0 = cs[j] := by simp [List.getD_eq_getElem?_getD, hj]
      show 255 < cs.getD j 0
      rw [e]; exact hw⟩
/-- an object of exactly java/lang/String, its two fields found: as the laws ask it -/
theorem strObj {Z U : State} {a0 : Array Value} {kI : Nat} (wi : (Jvm.Cond.instantiable ST kI).before a0 Z = true) (al : Z.vm.Alike U.vm) {x : Addr} {v0 c0 : Value} (E : RoadKit.Exa Z U.heap x ST) (V : RoadKit.Fld Z U.heap x ST "value" "[B" v0) (C : RoadKit.Fld Z U.heap x ST "coder" "B" c0) :
    ∃ (D : Cell) (fV fC : Field), Blank ST x D U ∧ Found ST "value" "[B" fV U ∧ Found ST "coder" "B" fC U ∧ D.slots[fV.slot]? = some v0 ∧ D.slots[fC.slot]? = some c0 ∧ RoadKit.slotOf Z ST "value" "[B" = fV.slot ∧ RoadKit.slotOf Z ST "coder" "B" = fC.slot := by
  obtain ⟨D, cfV, kV, iV, fV, hD, gV, stV, knV, obV, asV, slV⟩ := V
  obtain ⟨D', cfC, kC, iC, fC, hD', gC, stC, -, -, asC, slC⟩ := C
  cases hD.symm.trans hD'
  obtain ⟨D2, kD, e1, e2, e3, e4, e5⟩ := E
  cases hD.symm.trans e1
  obtain ⟨c2, k2, i1, i2, i3, -⟩ := Cond.instantiable_spec wi
  cases e2.symm.trans i1
  cases e3.symm.trans i2
  obtain ⟨kU, u1, u2⟩ := al.2.2 _ _ e3
  exact ⟨D, fV, fC, ⟨hD, ⟨knV, fun q hq => by rw [hq] at obV; cases obV⟩, by rw [al.findClass]; exact e2, kU, u1, by rw [u2]; exact i3, by rw [u2]; exact e5 i3⟩, ⟨SBG.found_only al ⟨cfV, kV, iV, gV⟩, stV⟩, ⟨SBG.found_only al ⟨cfC, kC, iC, gC⟩, stC⟩, slV, slC, by simp [RoadKit.slotOf, gV], by simp [RoadKit.slotOf, gC]⟩
theorem sta_is {Z U : State} (al : Z.vm.Alike U.vm) {C n d : String} {v : Value} (S : RoadKit.Sta Z U.heap C n d v) : StaticIs U C n d v := by
  obtain ⟨cfS, iS, kS, fS, st, cS, t1, t2, t3, t4, t5, t6, t7⟩ := S
  exact StaticIs.there (s := { Z with heap := U.heap }) ⟨cfS, iS, kS, fS, st, cS, t1, t2, t3, t4, t5, (fun q => by rw [q] at t6; cases t6), t7⟩ al rfl
/-- **length() OF SUCH A STRING** -/
theorem lenW {p : Program} {l : Launch} {e : Env} {R : Room} {s : State} {args : Array Value} {below : List Frame} {len W : Nat} {Z : State} {a0 : Array Value} {h : Heap} (hZ : Z.Warmed39 s.vm) (hw : ∀ d ∈ wordsLen, d.before a0 Z = true) {kI : Nat} (wi : (Jvm.Cond.instantiable ST kI).before a0 Z = true)
    {x t : Addr} {kb : ClassId} {cs : List Int32} {cd N2 z : Int32} {vs : List Value} (E : RoadKit.Exa Z h x ST) (V : RoadKit.Fld Z h x ST "value" "[B" (.ref t)) (C : RoadKit.Fld Z h x ST "coder" "B" (.int cd)) (K : RoadKit.Arv Z h t kb .byte N2 vs (.int 0)) (hc : CodA cs cd N2 vs) (hb : ∀ c ∈ cs, ¬ c < 0 ∧ ¬ (65535 : Int32) < c)
    (S : RoadKit.Sta Z h ST "COMPACT_STRINGS" "Z" (.int z)) (hz : ¬ z = 0) (l2 : cs.length ≤ 4000) (hfr : 2 ≤ R.frames) (hlo : W + 25 ≤ R.locals) :
    Back l R p e below s args (⟨"java/lang/String", "length", "()I"⟩ : MethodName) len W (fun P a => a = #[.ref x] ∧ P.U.heap = h ∧ P.cells + 0 ≤ R.cells ∧ P.slots + 0 ≤ R.slots)
      (fun P _ v B => ∃ L, (v = some (.int (Int32.ofNat cs.length)) ∧ L = [] ∧ B.U.heap = h) ∧ B.locs = P.locs ++ L ∧ B.cells = P.cells + 0 ∧ B.slots = P.slots + 0) := by
  obtain ⟨A, K1, K2, K3, K4, K5, K6⟩ := K
  have hcod := hc.cod (by omega) K3 K5
  intro m meth c P g ig mk a X hg hsize hdg hW hn hp'
  obtain ⟨rfl, rfl, r1, r2⟩ := hp'
  have al : Z.vm.Alike P.U.vm := hZ.alike.trans X.warmed.alike
  obtain ⟨D, fV, fC, hB, F1, F2, g1, g2, -, -⟩ := strObj wi al E V C
  have hx : Txt x t A cd cs.length (fun j => cs.getD j 0) P.U := ⟨⟨_, hB.2.2.1, D, hB.1, rfl, by cases q : D.vm <;> first | rfl | exact absurd q (hB.2.1.2 _)⟩, Has.of hB F1 g1, Has.of hB F2 g2, ⟨K1.1, State.isArrayOf_alike al K1.2.1, K1.2.2, by rcases hcod with ⟨-, q, -⟩ | ⟨-, q, -⟩ <;> omega⟩, hcod, fun j hj => by
    have e : cs.getD j 0 = cs[j] := by simp [List.getD_eq_getElem?_getD, hj]
    show ¬ cs.getD j 0 < 0 ∧ ¬ 65535 < cs.getD j 0
    rw [e]; exact hb _ (List.getElem_mem _)⟩
  obtain ⟨v, B, X', ⟨⟨hv, hh⟩, hl, hk, hs⟩, st⟩ := Len.pays x t A cd cs.length (fun j => cs.getD j 0) z (tabLen_of (movedLen hZ hw)) hfr hlo m meth c P g ig mk _ X hg hsize hdg hW hn ⟨r1, r2, rfl, hx, sta_is al S, hz⟩
  exact ⟨v, B, X', ⟨[], ⟨hv, rfl, hh⟩, hl, hk, hs⟩, st⟩
end StrChars.Road
namespace StrChars
open Jvm Sem ClassFile Op Lib Jvm.Stand Jvm.Free.XT Jvm.Free.ALB Jvm.Free.JM Jvm.Free
open Jvm.Lib.Cold (StaticIs)
namespace Emp
def yN : MethodName := ⟨"java/lang/String", "isEmpty", "()Z"⟩
abbrev yB : ByteArray := jdk_42_method_55_code
theorem d0 : decode yB 0 = .ok (.aload_n 0, 1) := by decide +kernel
theorem d1 : decode yB 1 = .ok (.getfield 9, 3) := by decide +kernel
theorem d4 : decode yB 4 = .ok (.arraylength, 1) := by decide +kernel
theorem d5 : decode yB 5 = .ok (.ifCond (.ne) 7, 3) := by decide +kernel
theorem d8 : decode yB 8 = .ok (.iconst 1, 1) := by decide +kernel
theorem d9 : decode yB 9 = .ok (.goto 4, 3) := by decide +kernel
theorem d12 : decode yB 12 = .ok (.iconst 0, 1) := by decide +kernel
theorem d13 : decode yB 13 = .ok (.ireturn, 1) := by decide +kernel
def site : List Cond := [.fieldLink "java/lang/String" 9 "java/lang/String" "value" "[B"]
def tab : Cond := tabOf yN yB 1 (some .boolean) site
def P (x t : Addr) (V : Cell) (cd : Int32) (n : Nat) (f : Nat → Int32) (args : Array Value) (s : State) : Prop := args = #[.ref x] ∧ Txt x t V cd n f s
def E (n : Nat) (r : Option Value) (s u : State) : Prop := XT.PureE (some (.int (if n = 0 then 1 else 0))) r s u
/-- isEmpty() of a String of n chars -/
theorem law (l : Launch) (x t : Addr) (V : Cell) (cd : Int32) (n : Nat) (f : Nat → Int32) : Law l yN 1 0 0 0 yB 1 (some .boolean) site (P x t V cd n f) (E n) [] 0 0 := by
  refine Law.of_walk (plainFor_of_name (by decide +kernel)) (by decide +kernel) (by decide +kernel) (by decide) (fun _ _ h => by rw [h.1]; rfl) (fun _ U U' hal hh h => ⟨h.1, h.2.mv hal hh⟩) (fun r U U' V V' h1 hal h2 h => XT.PureE.mv r U U' V V' h1 hal h2 h) ?_
  intro p e s m args below meth c s₁ X0 hexec hbytes hml hret hlk hnm hown hh0 W hP
  obtain ⟨rfl, hx⟩ := hP
  have v31 := hx.2.2.2.1.2.2.2
  have c1 : Steps p.tables e below (s₁.setTop (entryFrame m #[.ref x] 1)) (s₁.setTop (mkF m 1 #[.val (.ref x)] [.ref x])) := Steps.trans (entry rfl) (by
    show Steps p.tables e below (s₁.setTop (mkF m 0 #[.val (.ref x)] [])) _
    refine XS.aloadN X0.here hexec rfl (hb hbytes d0) rfl rfl ?_
    exact Steps.refl _)
  obtain ⟨T2, X2, q2, st2⟩ := X0.hget hexec hown (wk W (.fieldLink "java/lang/String" 9 "java/lang/String" "value" "[B")) (hx.mv X0.warmed.alike hh0).2.1 (g := (mkF m 1 #[.val (.ref x)] [.ref x])) rfl (rest := []) rfl (hb hbytes d1)
  have hh2 := q2.trans hh0
  have hx2 := hx.mv X2.warmed.alike hh2
  have c3 : Steps p.tables e below (s₁.setTop (entryFrame m #[.ref x] 1)) (T2.setTop (mkF m 5 #[.val (.ref x)] [.int (Int32.ofNat V.slots.size)])) := (c1.trans (st2 _ (Steps.refl _))).trans (by
    refine X2.alen hexec hx2.2.2.2.1 rfl rfl (hb hbytes d4) ?_
    exact Steps.refl _)
  have hz : V.slots.size = 0 ↔ n = 0 := by
    rcases hx.2.2.2.2.1 with ⟨-, q, -⟩ | ⟨-, q, -⟩ <;> omega
  by_cases h0 : n = 0
  · have c4 : Steps p.tables e below (s₁.setTop (entryFrame m #[.ref x] 1)) (T2.setTop (mkF m 13 #[.val (.ref x)] [.int 1])) := c3.trans (by
      refine XS.ifNo X2.here hexec rfl (hb hbytes d5) rfl (i0_ne_f (by rw [hz.mpr h0]; rfl)) ?_
      refine iconstV X2.here hexec rfl 1 (hb hbytes d8) (by decide) ?_
      refine XS.goto X2.here hexec rfl (pc0 := 9) rfl (hb hbytes d9) (by decide) rfl ?_
      exact Steps.refl _)
    exact ⟨T2, some (.int 1), _, _, _, X2, rfl, rfl, rfl, (fun h => by cases h), ⟨by rw [if_pos h0], hh2⟩, fun fs hl => c4.trans (X2.ireturnOut hexec hret rfl (Or.inr (Or.inl rfl)) (hb hbytes d13) hl)⟩
  · have c4 : Steps p.tables e below (s₁.setTop (entryFrame m #[.ref x] 1)) (T2.setTop (mkF m 13 #[.val (.ref x)] [.int 0])) := c3.trans (by
      refine XS.ifYes X2.here hexec rfl (pc0 := 5) rfl (hb hbytes d5) rfl (i0_ne_t (nz32 v31 (by omega))) (by decide) rfl ?_
      refine iconstV X2.here hexec rfl 0 (hb hbytes d12) (by decide) ?_
      exact Steps.refl _)
    exact ⟨T2, some (.int 0), _, _, _, X2, rfl, rfl, rfl, (fun h => by cases h), ⟨by rw [if_neg h0], hh2⟩, fun fs hl => c4.trans (X2.ireturnOut hexec hret rfl (Or.inr (Or.inl rfl)) (hb hbytes d13) hl)⟩
theorem pays {l : Launch} {R : Room} {p : Program} {e : Env} {below : List Frame} {s : State} {sargs : Array Value} {len W : Nat} (x t : Addr) (V : Cell) (cd : Int32) (n : Nat) (f : Nat → Int32) (htab : tab.before sargs s = true) (hfr : 1 ≤ R.frames) (hlo : W + 12 ≤ R.locals) :
    Back l R p e below s sargs yN len W (fun A₁ a₁ => A₁.cells + 0 ≤ R.cells ∧ A₁.slots + 0 ≤ R.slots ∧ P x t V cd n f a₁ A₁.U) (fun A₁ _ v₁ B₁ => E n v₁ A₁.U B₁.U ∧ B₁.locs = A₁.locs ++ [] ∧ B₁.cells = A₁.cells + 0 ∧ B₁.slots = A₁.slots + 0) :=
  (law l x t V cd n f).pays htab hfr (by omega)
end Emp
/-- what place i of a byte[]'s cell holds -/
def yv (A : Cell) (i : Nat) : Int32 := match A.slots[i]? with | some (.int x) => x | _ => 0
theorem yv_get {a : Addr} {A : Cell} {U : State} (h : XT.Arr .byte a A U) (ht : Typed .byte A) {i : Nat} (hi : i < A.slots.size) : A.slots[i]? = some (.int (yv A i)) := by
  have e := Array.getElem?_eq_getElem hi
  have f := ht i _ e
  unfold yv; rw [e]
  generalize A.slots[i] = v at f
  cases v <;> simp [fits] at f ⊢
/-- the two arrays are equal, place for place -/
def EqC (A B : Cell) : Prop := A.slots.size = B.slots.size ∧ ∀ i, i < A.slots.size → yv A i = yv B i
/-- a boolean that says whether p -/
def Says01 (q : Prop) (r : Option Value) (s u : State) : Prop := ∃ v : Int32, r = some (.int v) ∧ u.heap = s.heap ∧ ((v = 1 ∧ q) ∨ (v = 0 ∧ ¬ q))
theorem Says01.mv {q : Prop} : ∀ r (U U' V V' : State), U'.heap = U.heap → V.vm.Alike V'.vm → V'.heap = V.heap → Says01 q r U V → Says01 q r U' V' :=
  fun r U U' V V' h1 _ h2 ⟨v, a, b, c⟩ => ⟨v, a, by rw [h1, h2]; exact b, c⟩
namespace LEq
def yN : MethodName := ⟨"java/lang/StringLatin1", "equals", "([B[B)Z"⟩
abbrev yB : ByteArray := jdk_43_method_13_code
theorem d0 : decode yB 0 = .ok (.aload_n 0, 1) := by decide +kernel
theorem d1 : decode yB 1 = .ok (.arraylength, 1) := by decide +kernel
theorem d2 : decode yB 2 = .ok (.aload_n 1, 1) := by decide +kernel
theorem d3 : decode yB 3 = .ok (.arraylength, 1) := by decide +kernel
theorem d4 : decode yB 4 = .ok (.if_icmp (.ne) 30, 3) := by decide +kernel
theorem d7 : decode yB 7 = .ok (.iconst 0, 1) := by decide +kernel
theorem d8 : decode yB 8 = .ok (.istore_n 2, 1) := by decide +kernel
theorem d9 : decode yB 9 = .ok (.iload_n 2, 1) := by decide +kernel
theorem d10 : decode yB 10 = .ok (.aload_n 0, 1) := by decide +kernel
theorem d11 : decode yB 11 = .ok (.arraylength, 1) := by decide +kernel
theorem d12 : decode yB 12 = .ok (.if_icmp (.ge) 20, 3) := by decide +kernel
theorem d15 : decode yB 15 = .ok (.aload_n 0, 1) := by decide +kernel
theorem d16 : decode yB 16 = .ok (.iload_n 2, 1) := by decide +kernel
theorem d17 : decode yB 17 = .ok (.baload, 1) := by decide +kernel
theorem d18 : decode yB 18 = .ok (.aload_n 1, 1) := by decide +kernel
theorem d19 : decode yB 19 = .ok (.iload_n 2, 1) := by decide +kernel
theorem d20 : decode yB 20 = .ok (.baload, 1) := by decide +kernel
theorem d21 : decode yB 21 = .ok (.if_icmp (.eq) 5, 3) := by decide +kernel
theorem d24 : decode yB 24 = .ok (.iconst 0, 1) := by decide +kernel
theorem d25 : decode yB 25 = .ok (.ireturn, 1) := by decide +kernel
theorem d26 : decode yB 26 = .ok (.iinc 2 1, 3) := by decide +kernel
theorem d29 : decode yB 29 = .ok (.goto (-20), 3) := by decide +kernel
theorem d32 : decode yB 32 = .ok (.iconst 1, 1) := by decide +kernel
theorem d33 : decode yB 33 = .ok (.ireturn, 1) := by decide +kernel
theorem d34 : decode yB 34 = .ok (.iconst 0, 1) := by decide +kernel
theorem d35 : decode yB 35 = .ok (.ireturn, 1) := by decide +kernel
def site : List Cond := []
def tab : Cond := tabOf yN yB 3 (some .boolean) site
def P (a : Addr) (A : Cell) (b : Addr) (B : Cell) (args : Array Value) (s : State) : Prop := args = #[.ref a, .ref b] ∧ XT.Arr .byte a A s ∧ Typed .byte A ∧ XT.Arr .byte b B s ∧ Typed .byte B
/-- whether two byte[] are equal, place for place -/
theorem law (l : Launch) (a : Addr) (A : Cell) (b : Addr) (B : Cell) : Law l yN 2 2 0 0 yB 3 (some .boolean) site (P a A b B) (Says01 (EqC A B)) [] 0 0 := by
  refine Law.of_walk (plainFor_of_name (by decide +kernel)) (by decide +kernel) (by decide +kernel) (by decide) (fun _ _ h => by rw [h.1]; rfl) (fun _ U U' hal hh h => ⟨h.1, h.2.1.mv hal hh, h.2.2.1, h.2.2.2.1.mv hal hh, h.2.2.2.2⟩) (fun r U U' V V' h1 hal h2 h => Says01.mv r U U' V V' h1 hal h2 h) ?_
  intro p e s m args below meth c s₁ X0 hexec hbytes hml hret hlk hnm hown hh0 W hP
  obtain ⟨rfl, hA, tA, hB, tB⟩ := hP
  have a31 := hA.2.2.2
  have b31 := hB.2.2.2
  have hA0 := hA.mv X0.warmed.alike hh0
  have hB0 := hB.mv X0.warmed.alike hh0
  have c1 : Steps p.tables e below (s₁.setTop (entryFrame m #[.ref a, .ref b] 3)) (s₁.setTop (mkF m 0 #[.val (.ref a), .val (.ref b), .unset] [])) := entry rfl
  have c2 : Steps p.tables e below (s₁.setTop (entryFrame m #[.ref a, .ref b] 3)) (s₁.setTop (mkF m 4 #[.val (.ref a), .val (.ref b), .unset] [.int (Int32.ofNat B.slots.size), .int (Int32.ofNat A.slots.size)])) := c1.trans (by
    refine XS.aloadN X0.here hexec rfl (hb hbytes d0) rfl rfl ?_
    refine X0.alen hexec hA0 rfl rfl (hb hbytes d1) ?_
    refine XS.aloadN X0.here hexec rfl (hb hbytes d2) rfl rfl ?_
    refine X0.alen hexec hB0 rfl rfl (hb hbytes d3) ?_
    exact Steps.refl _)
  by_cases hs : A.slots.size = B.slots.size
  · have c3 : Steps p.tables e below (s₁.setTop (entryFrame m #[.ref a, .ref b] 3)) (s₁.setTop (mkF m 9 #[.val (.ref a), .val (.ref b), .val (.int 0)] [])) := c2.trans (by
      refine XS.icmpNo X0.here hexec rfl (hb hbytes d4) rfl (ii_ne_f (by rw [hs])) ?_
      refine iconstV X0.here hexec rfl 0 (hb hbytes d7) (by decide) ?_
      refine XS.istoreN X0.here hexec rfl (hb hbytes d8) rfl rfl ?_
      exact Steps.refl _)
    have loop : ∀ (r i : Nat), i + r = A.slots.size → (∀ j, j < i → yv A j = yv B j) → Steps p.tables e below (s₁.setTop (entryFrame m #[.ref a, .ref b] 3)) (s₁.setTop (mkF m 9 #[.val (.ref a), .val (.ref b), .val (.int (Int32.ofNat i))] [])) → ∃ (pc : Nat) (Ls : Array Slot) (v : Int32), (pc = 25 ∨ pc = 33) ∧ ((v = 1 ∧ EqC A B) ∨ (v = 0 ∧ ¬ EqC A B)) ∧ Steps p.tables e below (s₁.setTop (entryFrame m #[.ref a, .ref b] 3)) (s₁.setTop (mkF m pc Ls [.int v])) := by
      intro r
      induction r with
      | zero =>
        intro i hi he cl
        exact ⟨33, _, 1, Or.inr rfl, Or.inl ⟨rfl, hs, fun j hj => he j (by omega)⟩, cl.trans (by
          refine XS.iloadN X0.here hexec rfl (hb hbytes d9) rfl ?_
          refine XS.aloadN X0.here hexec rfl (hb hbytes d10) rfl rfl ?_
          refine X0.alen hexec hA0 rfl rfl (hb hbytes d11) ?_
          refine XS.icmpYes X0.here hexec rfl (pc0 := 12) rfl (hb hbytes d12) rfl (ii_ge_t (nlt32 (by omega) (by omega))) (by decide) rfl ?_
          refine iconstV X0.here hexec rfl 1 (hb hbytes d32) (by decide) ?_
          exact Steps.refl _)⟩
      | succ r ih =>
        intro i hi he cl
        have c4 : Steps p.tables e below (s₁.setTop (entryFrame m #[.ref a, .ref b] 3)) (s₁.setTop (mkF m 21 #[.val (.ref a), .val (.ref b), .val (.int (Int32.ofNat i))] [.int (yv B i), .int (yv A i)])) := cl.trans (by
          refine XS.iloadN X0.here hexec rfl (hb hbytes d9) rfl ?_
          refine XS.aloadN X0.here hexec rfl (hb hbytes d10) rfl rfl ?_
          refine X0.alen hexec hA0 rfl rfl (hb hbytes d11) ?_
          refine XS.icmpNo X0.here hexec rfl (hb hbytes d12) rfl (ii_ge_f (lt32 (by omega) (by omega))) ?_
          refine XS.aloadN X0.here hexec rfl (hb hbytes d15) rfl rfl ?_
          refine XS.iloadN X0.here hexec rfl (hb hbytes d16) rfl ?_
          refine X0.aget hexec hA0 rfl (yv_get hA tA (i := i) (by omega)) rfl rfl (hb hbytes d17) ?_
          refine XS.aloadN X0.here hexec rfl (hb hbytes d18) rfl rfl ?_
          refine XS.iloadN X0.here hexec rfl (hb hbytes d19) rfl ?_
          refine X0.aget hexec hB0 rfl (yv_get hB tB (i := i) (by omega)) rfl rfl (hb hbytes d20) ?_
          exact Steps.refl _)
        by_cases hv : yv A i = yv B i
        · have c5 : Steps p.tables e below (s₁.setTop (entryFrame m #[.ref a, .ref b] 3)) (s₁.setTop (mkF m 9 #[.val (.ref a), .val (.ref b), .val (.int (Int32.ofNat i + 1))] [])) := c4.trans (by
            refine XS.icmpYes X0.here hexec rfl (pc0 := 21) rfl (hb hbytes d21) rfl (ii_eq_t hv) (by decide) rfl ?_
            refine iincV X0.here hexec rfl 1 (hb hbytes d26) (by decide) rfl rfl ?_
            refine XS.goto X0.here hexec rfl (pc0 := 29) rfl (hb hbytes d29) (by decide) rfl ?_
            exact Steps.refl _)
          rw [succ32] at c5
          exact ih (i + 1) (by omega) (fun j hj => by
            by_cases e : j = i
            · rw [e]; exact hv
            · exact he j (by omega)) c5
        · exact ⟨25, _, 0, Or.inl rfl, Or.inr ⟨rfl, fun q => hv (q.2 i (by omega))⟩, c4.trans (by
            refine XS.icmpNo X0.here hexec rfl (hb hbytes d21) rfl (ii_eq_f hv) ?_
            refine iconstV X0.here hexec rfl 0 (hb hbytes d24) (by decide) ?_
            exact Steps.refl _)⟩
    obtain ⟨pc, Ls, v, hpc, hv, cz⟩ := loop A.slots.size 0 (by omega) (fun j hj => absurd hj (Nat.not_lt_zero j)) c3
    have nv : narrow .boolean (.int v) = .int v := by rcases hv with ⟨rfl, -⟩ | ⟨rfl, -⟩ <;> rfl
    rcases hpc with rfl | rfl
    · exact ⟨s₁, some (.int v), _, _, _, X0, rfl, rfl, rfl, (fun h => by cases h), ⟨v, rfl, hh0, hv⟩, fun fs hl => cz.trans (X0.ireturnOut hexec hret nv (Or.inr (Or.inl rfl)) (hb hbytes d25) hl)⟩
    · exact ⟨s₁, some (.int v), _, _, _, X0, rfl, rfl, rfl, (fun h => by cases h), ⟨v, rfl, hh0, hv⟩, fun fs hl => cz.trans (X0.ireturnOut hexec hret nv (Or.inr (Or.inl rfl)) (hb hbytes d33) hl)⟩
  · have c3 : Steps p.tables e below (s₁.setTop (entryFrame m #[.ref a, .ref b] 3)) (s₁.setTop (mkF m 35 #[.val (.ref a), .val (.ref b), .unset] [.int 0])) := c2.trans (by
      refine XS.icmpYes X0.here hexec rfl (pc0 := 4) rfl (hb hbytes d4) rfl (ii_ne_t (ne32 a31 b31 hs)) (by decide) rfl ?_
      refine iconstV X0.here hexec rfl 0 (hb hbytes d34) (by decide) ?_
      exact Steps.refl _)
    exact ⟨s₁, some (.int 0), _, _, _, X0, rfl, rfl, rfl, (fun h => by cases h), ⟨0, rfl, hh0, Or.inr ⟨rfl, fun q => hs q.1⟩⟩, fun fs hl => c3.trans (X0.ireturnOut hexec hret rfl (Or.inr (Or.inl rfl)) (hb hbytes d35) hl)⟩
end LEq
theorem Cod.ty {cd : Int32} {n : Nat} {f : Nat → Int32} {V : Cell} (h : Cod cd n f V) : Typed .byte V := fun i v hv => by
  have hi : i < V.slots.size := (Array.getElem?_eq_some_iff.mp hv).1
  rcases h with ⟨-, k1, k2⟩ | ⟨-, k1, k2, -⟩
  · rw [(k2 i (by omega)).1] at hv; cases hv; exact fits_lo8 _
  · rcases Nat.mod_two_eq_zero_or_one i with e | e
    · obtain ⟨j, rfl⟩ : ∃ j, i = 2 * j := ⟨i / 2, by omega⟩
      rw [(k2 j (by omega)).1] at hv; cases hv; exact fits_lo8 _
    · obtain ⟨j, rfl⟩ : ∃ j, i = 2 * j + 1 := ⟨i / 2, by omega⟩
      rw [(k2 j (by omega)).2] at hv; cases hv; exact fits_lo8 _
/-- the same text -/
def SameT (n : Nat) (f : Nat → Int32) (k : Nat) (g : Nat → Int32) : Prop := n = k ∧ ∀ j, j < n → f j = g j
theorem lo8_inj {x y : Int32} (h0 : ¬ x < 0) (h1 : ¬ 255 < x) (k0 : ¬ y < 0) (k1 : ¬ 255 < y) (h : lo8 x = lo8 y) : x = y := by
  rw [← lo8_mask h0 h1, ← lo8_mask k0 k1, h]
/-- arrays coded by one coder are equal just where the texts are -/
theorem Cod.eqv {cd : Int32} {n k : Nat} {f g : Nat → Int32} {V V' : Cell} (h : Cod cd n f V) (h' : Cod cd k g V') (hf : ∀ j, j < n → ¬ f j < 0 ∧ ¬ 65535 < f j) (hg : ∀ j, j < k → ¬ g j < 0 ∧ ¬ 65535 < g j) : EqC V V' ↔ SameT n f k g := by
  have yvv : ∀ {W : Cell} {i : Nat} {x : Int32}, W.slots[i]? = some (.int x) → yv W i = x := fun q => by unfold yv; rw [q]
  rcases h with ⟨rfl, k1, k2⟩ | ⟨rfl, k1, k2, -⟩
  · rcases h' with ⟨-, m1, m2⟩ | ⟨e, -⟩
    · constructor
      · rintro ⟨e1, e2⟩
        refine ⟨by omega, fun j hj => ?_⟩
        have q := e2 j (by omega)
        rw [yvv (k2 j hj).1, yvv (m2 j (by omega)).1] at q
        exact lo8_inj (hf j hj).1 (k2 j hj).2 (hg j (by omega)).1 (m2 j (by omega)).2 q
      · rintro ⟨rfl, e2⟩
        refine ⟨by omega, fun j hj => ?_⟩
        rw [yvv (k2 j (by omega)).1, yvv (m2 j (by omega)).1, e2 j (by omega)]
    · exact absurd e (by decide)
  · rcases h' with ⟨e, -⟩ | ⟨-, m1, m2, -⟩
    · exact absurd e (by decide)
    · constructor
      · rintro ⟨e1, e2⟩
        refine ⟨by omega, fun j hj => ?_⟩
        have q1 := e2 (2 * j) (by omega)
        have q2 := e2 (2 * j + 1) (by omega)
        rw [yvv (k2 j hj).1, yvv (m2 j (by omega)).1] at q1
        rw [yvv (k2 j hj).2, yvv (m2 j (by omega)).2] at q2
        rw [← pair_says (hf j hj).1 (hf j hj).2, ← pair_says (hg j (by omega)).1 (hg j (by omega)).2, q1, q2]
      · rintro ⟨rfl, e2⟩
        refine ⟨by omega, fun i hi => ?_⟩
        rcases Nat.mod_two_eq_zero_or_one i with e | e
        · obtain ⟨j, rfl⟩ : ∃ j, i = 2 * j := ⟨i / 2, by omega⟩
          rw [yvv (k2 j (by omega)).1, yvv (m2 j (by omega)).1, e2 j (by omega)]
        · obtain ⟨j, rfl⟩ : ∃ j, i = 2 * j + 1 := ⟨i / 2, by omega⟩
          rw [yvv (k2 j (by omega)).2, yvv (m2 j (by omega)).2, e2 j (by omega)]
/-- two codings differ: so do the texts -/
theorem Cod.dif {cd cd' : Int32} {n k : Nat} {f g : Nat → Int32} {V V' : Cell} (h : Cod cd n f V) (h' : Cod cd' k g V') (hne : ¬ cd = cd') : ¬ SameT n f k g := by
  rintro ⟨rfl, e⟩
  rcases h with ⟨rfl, -, k2⟩ | ⟨rfl, -, -, j, hj, hw⟩
  · rcases h' with ⟨rfl, -⟩ | ⟨-, -, -, j, hj, hw⟩
    · exact hne rfl
    · exact (k2 j hj).2 (by rw [e j hj]; exact hw)
  · rcases h' with ⟨-, -, m2⟩ | ⟨rfl, -⟩
    · exact (m2 j hj).2 (by rw [← e j hj]; exact hw)
    · exact hne rfl
/-- an object of exactly C is an instance of C -/
theorem cinst {p : Program} {l : Launch} {e : Env} {R : Room} {s : State} {m : MethodId} {args : Array Value} {below : List Frame} {meth : Method} {c : Code} {T : State} {locs : List Loc} {cells slots : Nat} (X : Stand p l e R s m args below meth c T locs cells slots) (hexec : p.tables.exec = Jvm.exec) {own C : String} {index : Nat} (hown : s.vm.findClass own = some m.cls) (hlink : (Cond.classLink own index C).before args s = true) {a : Addr} (hE : Exact C a T)
    {g : JFrame} (hg : g.method = m) {rest : List Value} (hstack : g.stack = .ref a :: rest) (hdg : decode c.code g.pc = .ok (.instanceof index, 3)) :
    ∃ T', Stand p l e R s m args below meth c T' locs cells slots ∧ T'.heap = T.heap ∧ ∀ target, Steps p.tables e below (T'.setTop { g with pc := g.pc + 3, stack := .int 1 :: rest }) target → Steps p.tables e below (T.setTop g) target := by
  obtain ⟨cB, h1, D, h2, h3, h4⟩ := hE
  have h1' : s.vm.findClass C = some cB := by rw [← X.warmed.alike.findClass]; exact h1
  obtain ⟨vm', X', st⟩ := X.instanceofYes hexec hown hlink h2 h4 h1' (by rw [h3]; exact Jvm.Free.SB.assignable_self _ _) hg hstack hdg
  exact ⟨_, X', rfl, st⟩
theorem cself {p : Program} {l : Launch} {e : Env} {R : Room} {s : State} {m : MethodId} {args : Array Value} {below : List Frame} {meth : Method} {c : Code} {T : State} {locs : List Loc} {cells slots : Nat} (X : Stand p l e R s m args below meth c T locs cells slots) (hexec : p.tables.exec = Jvm.exec) {own C : String} {index : Nat} (hown : s.vm.findClass own = some m.cls) (hlink : (Cond.classLink own index C).before args s = true) {a : Addr} (hE : Exact C a T)
    {g : JFrame} (hg : g.method = m) {rest : List Value} (hstack : g.stack = .ref a :: rest) (hdg : decode c.code g.pc = .ok (.checkcast index, 3)) :
    ∃ T', Stand p l e R s m args below meth c T' locs cells slots ∧ T'.heap = T.heap ∧ ∀ target, Steps p.tables e below (T'.setTop { g with pc := g.pc + 3, stack := .ref a :: rest }) target → Steps p.tables e below (T.setTop g) target := by
  obtain ⟨cB, h1, D, h2, h3, h4⟩ := hE
  have h1' : s.vm.findClass C = some cB := by rw [← X.warmed.alike.findClass]; exact h1
  obtain ⟨vm', X', st⟩ := X.checkcastYes hexec hown hlink h2 h4 h1' (by rw [h3]; exact Jvm.Free.SB.assignable_self _ _) hg hstack hdg
  exact ⟨_, X', rfl, fun t h => st t (by rw [← hstack] at h; exact h)⟩
namespace SEq
def yN : MethodName := ⟨"java/lang/String", "equals", "(Ljava/lang/Object;)Z"⟩
abbrev yB : ByteArray := jdk_42_method_66_code
theorem d0 : decode yB 0 = .ok (.aload_n 0, 1) := by decide +kernel
theorem d1 : decode yB 1 = .ok (.aload_n 1, 1) := by decide +kernel
theorem d2 : decode yB 2 = .ok (.if_acmp (.ne) 5, 3) := by decide +kernel
theorem d5 : decode yB 5 = .ok (.iconst 1, 1) := by decide +kernel
theorem d6 : decode yB 6 = .ok (.ireturn, 1) := by decide +kernel
theorem d7 : decode yB 7 = .ok (.aload_n 1, 1) := by decide +kernel
theorem d8 : decode yB 8 = .ok (.instanceof 10, 3) := by decide +kernel
theorem d11 : decode yB 11 = .ok (.ifCond (.eq) 43, 3) := by decide +kernel
theorem d14 : decode yB 14 = .ok (.aload_n 1, 1) := by decide +kernel
theorem d15 : decode yB 15 = .ok (.checkcast 10, 3) := by decide +kernel
theorem d18 : decode yB 18 = .ok (.astore_n 2, 1) := by decide +kernel
theorem d19 : decode yB 19 = .ok (.getstatic 38, 3) := by decide +kernel
theorem d22 : decode yB 22 = .ok (.ifCond (.eq) 14, 3) := by decide +kernel
theorem d25 : decode yB 25 = .ok (.aload_n 0, 1) := by decide +kernel
theorem d26 : decode yB 26 = .ok (.getfield 15, 3) := by decide +kernel
theorem d29 : decode yB 29 = .ok (.aload_n 2, 1) := by decide +kernel
theorem d30 : decode yB 30 = .ok (.getfield 15, 3) := by decide +kernel
theorem d33 : decode yB 33 = .ok (.if_icmp (.ne) 21, 3) := by decide +kernel
theorem d36 : decode yB 36 = .ok (.aload_n 0, 1) := by decide +kernel
theorem d37 : decode yB 37 = .ok (.getfield 9, 3) := by decide +kernel
theorem d40 : decode yB 40 = .ok (.aload_n 2, 1) := by decide +kernel
theorem d41 : decode yB 41 = .ok (.getfield 9, 3) := by decide +kernel
theorem d44 : decode yB 44 = .ok (.invokestatic 541, 3) := by decide +kernel
theorem d47 : decode yB 47 = .ok (.ifCond (.eq) 7, 3) := by decide +kernel
theorem d50 : decode yB 50 = .ok (.iconst 1, 1) := by decide +kernel
theorem d51 : decode yB 51 = .ok (.goto 4, 3) := by decide +kernel
theorem d54 : decode yB 54 = .ok (.iconst 0, 1) := by decide +kernel
theorem d55 : decode yB 55 = .ok (.ireturn, 1) := by decide +kernel
def site : List Cond := [.classLink "java/lang/String" 10 "java/lang/String", .fieldLink "java/lang/String" 38 "java/lang/String" "COMPACT_STRINGS" "Z", .fieldLink "java/lang/String" 15 "java/lang/String" "coder" "B", .fieldLink "java/lang/String" 9 "java/lang/String" "value" "[B", LEq.tab] ++ staticW "java/lang/String" 541 LEq.yN
def tab : Cond := tabOf yN yB 3 (some .boolean) site
def P (x t : Addr) (V : Cell) (cd : Int32) (n : Nat) (f : Nat → Int32) (y t' : Addr) (V' : Cell) (cd' : Int32) (k : Nat) (g : Nat → Int32) (z : Int32) (args : Array Value) (s : State) : Prop := args = #[.ref x, .ref y] ∧ Txt x t V cd n f s ∧ Txt y t' V' cd' k g s ∧ StaticIs s "java/lang/String" "COMPACT_STRINGS" "Z" (.int z) ∧ ¬ z = 0
/-- equals(Object) of two Strings: whether the texts are the same -/
theorem law (l : Launch) (x t : Addr) (V : Cell) (cd : Int32) (n : Nat) (f : Nat → Int32) (y t' : Addr) (V' : Cell) (cd' : Int32) (k : Nat) (g : Nat → Int32) (z : Int32) : Law l yN 2 1 1 14 yB 3 (some .boolean) site (P x t V cd n f y t' V' cd' k g z) (Says01 (SameT n f k g)) [] 0 0 := by
  refine Law.of_walk (plainFor_of_name (by decide +kernel)) (by decide +kernel) (by decide +kernel) (by decide) (fun _ _ h => by rw [h.1]; rfl) (fun _ U U' hal hh h => ⟨h.1, h.2.1.mv hal hh, h.2.2.1.mv hal hh, h.2.2.2.1.there hal hh, h.2.2.2.2⟩) (fun r U U' V V' h1 hal h2 h => Says01.mv r U U' V V' h1 hal h2 h) ?_
  intro p e s m args below meth c s₁ X0 hexec hbytes hml hret hlk hnm hown hh0 W hP
  obtain ⟨rfl, hx, hy, s1, hz⟩ := hP
  have c1 : Steps p.tables e below (s₁.setTop (entryFrame m #[.ref x, .ref y] 3)) (s₁.setTop (mkF m 2 #[.val (.ref x), .val (.ref y), .unset] [.ref y, .ref x])) := Steps.trans (entry rfl) (by
    show Steps p.tables e below (s₁.setTop (mkF m 0 #[.val (.ref x), .val (.ref y), .unset] [])) _
    refine XS.aloadN X0.here hexec rfl (hb hbytes d0) rfl rfl ?_
    refine XS.aloadN X0.here hexec rfl (hb hbytes d1) rfl rfl ?_
    exact Steps.refl _)
  by_cases hxy : x = y
  · have c2 : Steps p.tables e below (s₁.setTop (entryFrame m #[.ref x, .ref y] 3)) (s₁.setTop (mkF m 6 #[.val (.ref x), .val (.ref y), .unset] [.int 1])) := c1.trans (by
      refine acmpNo X0.here hexec rfl (hb hbytes d2) rfl rfl rfl (by simp [acmp, hxy]) ?_
      refine iconstV X0.here hexec rfl 1 (hb hbytes d5) (by decide) ?_
      exact Steps.refl _)
    subst hxy
    have ec : cd = cd' := by
      obtain ⟨D, fd, a1, a2, a3⟩ := hx.2.2.1
      obtain ⟨D', fd', b1, b2, b3⟩ := hy.2.2.1
      cases a1.symm.trans b1
      obtain ⟨q1, q2, q3, q4⟩ := a2.1
      obtain ⟨r1, r2, r3, r4⟩ := b2.1
      cases q4.symm.trans r4
      cases a3.symm.trans b3; rfl
    have et : t = t' := by
      obtain ⟨D, fd, a1, a2, a3⟩ := hx.2.1
      obtain ⟨D', fd', b1, b2, b3⟩ := hy.2.1
      cases a1.symm.trans b1
      obtain ⟨q1, q2, q3, q4⟩ := a2.1
      obtain ⟨r1, r2, r3, r4⟩ := b2.1
      cases q4.symm.trans r4
      cases a3.symm.trans b3; rfl
    subst ec et
    have ev : V = V' := by cases hx.2.2.2.1.1.symm.trans hy.2.2.2.1.1; rfl
    subst ev
    have hs : SameT n f k g := (Cod.eqv hx.2.2.2.2.1 hy.2.2.2.2.1 hx.2.2.2.2.2 hy.2.2.2.2.2).mp ⟨rfl, fun _ _ => rfl⟩
    exact ⟨s₁, some (.int 1), _, _, _, X0, rfl, rfl, rfl, (fun h => by cases h), ⟨1, rfl, hh0, Or.inl ⟨rfl, hs⟩⟩, fun fs hl => c2.trans (X0.ireturnOut hexec hret rfl (Or.inr (Or.inl rfl)) (hb hbytes d6) hl)⟩
  · have c2 : Steps p.tables e below (s₁.setTop (entryFrame m #[.ref x, .ref y] 3)) (s₁.setTop (mkF m 8 #[.val (.ref x), .val (.ref y), .unset] [.ref y])) := c1.trans (by
      refine acmpYes X0.here hexec rfl (pc0 := 2) rfl (hb hbytes d2) rfl rfl rfl (by simp [acmp, hxy]) (by decide) rfl ?_
      refine XS.aloadN X0.here hexec rfl (hb hbytes d7) rfl rfl ?_
      exact Steps.refl _)
    obtain ⟨T3, X3, q3, st3⟩ := cinst X0 hexec hown (wk W (.classLink "java/lang/String" 10 "java/lang/String")) (hy.mv X0.warmed.alike hh0).1 (g := (mkF m 8 #[.val (.ref x), .val (.ref y), .unset] [.ref y])) rfl (rest := []) rfl (hb hbytes d8)
    have hh3 := q3.trans hh0
    have c4 : Steps p.tables e below (s₁.setTop (entryFrame m #[.ref x, .ref y] 3)) (T3.setTop (mkF m 15 #[.val (.ref x), .val (.ref y), .unset] [.ref y])) := (c2.trans (st3 _ (Steps.refl _))).trans (by
      refine XS.ifNo X3.here hexec rfl (hb hbytes d11) rfl (i0_eq_f (by decide)) ?_
      refine XS.aloadN X3.here hexec rfl (hb hbytes d14) rfl rfl ?_
      exact Steps.refl _)
    obtain ⟨T5, X5, q5, st5⟩ := cself X3 hexec hown (wk W (.classLink "java/lang/String" 10 "java/lang/String")) (hy.mv X3.warmed.alike hh3).1 (g := (mkF m 15 #[.val (.ref x), .val (.ref y), .unset] [.ref y])) rfl (rest := []) rfl (hb hbytes d15)
    have hh5 := q5.trans hh3
    have c6 : Steps p.tables e below (s₁.setTop (entryFrame m #[.ref x, .ref y] 3)) (T5.setTop (mkF m 19 #[.val (.ref x), .val (.ref y), .val (.ref y)] [])) := (c4.trans (st5 _ (Steps.refl _))).trans (by
      refine XS.astoreN X5.here hexec rfl (hb hbytes d18) rfl rfl rfl ?_
      exact Steps.refl _)
    obtain ⟨T7, X7, q7, st7⟩ := X5.sget hexec hown (wk W (.fieldLink "java/lang/String" 38 "java/lang/String" "COMPACT_STRINGS" "Z")) s1 (fun _ _ h => by rw [hh5]; exact h) (g := (mkF m 19 #[.val (.ref x), .val (.ref y), .val (.ref y)] [])) rfl (hb hbytes d19)
    have hh7 := q7.trans hh5
    have c8 : Steps p.tables e below (s₁.setTop (entryFrame m #[.ref x, .ref y] 3)) (T7.setTop (mkF m 26 #[.val (.ref x), .val (.ref y), .val (.ref y)] [.ref x])) := (c6.trans (st7 _ (Steps.refl _))).trans (by
      refine XS.ifNo X7.here hexec rfl (hb hbytes d22) rfl (i0_eq_f hz) ?_
      refine XS.aloadN X7.here hexec rfl (hb hbytes d25) rfl rfl ?_
      exact Steps.refl _)
    obtain ⟨T9, X9, q9, st9⟩ := X7.hget hexec hown (wk W (.fieldLink "java/lang/String" 15 "java/lang/String" "coder" "B")) (hx.mv X7.warmed.alike hh7).2.2.1 (g := (mkF m 26 #[.val (.ref x), .val (.ref y), .val (.ref y)] [.ref x])) rfl (rest := []) rfl (hb hbytes d26)
    have hh9 := q9.trans hh7
    have c10 : Steps p.tables e below (s₁.setTop (entryFrame m #[.ref x, .ref y] 3)) (T9.setTop (mkF m 30 #[.val (.ref x), .val (.ref y), .val (.ref y)] [.ref y, .int cd])) := (c8.trans (st9 _ (Steps.refl _))).trans (by
      refine XS.aloadN X9.here hexec rfl (hb hbytes d29) rfl rfl ?_
      exact Steps.refl _)
    obtain ⟨T11, X11, q11, st11⟩ := X9.hget hexec hown (wk W (.fieldLink "java/lang/String" 15 "java/lang/String" "coder" "B")) (hy.mv X9.warmed.alike hh9).2.2.1 (g := (mkF m 30 #[.val (.ref x), .val (.ref y), .val (.ref y)] [.ref y, .int cd])) rfl (rest := [.int cd]) rfl (hb hbytes d30)
    have hh11 := q11.trans hh9
    have c12 : Steps p.tables e below (s₁.setTop (entryFrame m #[.ref x, .ref y] 3)) (T11.setTop (mkF m 33 #[.val (.ref x), .val (.ref y), .val (.ref y)] [.int cd', .int cd])) := c10.trans (st11 _ (Steps.refl _))
    by_cases hcd : cd = cd'
    · subst hcd
      have c13 : Steps p.tables e below (s₁.setTop (entryFrame m #[.ref x, .ref y] 3)) (T11.setTop (mkF m 37 #[.val (.ref x), .val (.ref y), .val (.ref y)] [.ref x])) := c12.trans (by
        refine XS.icmpNo X11.here hexec rfl (hb hbytes d33) rfl (ii_ne_f rfl) ?_
        refine XS.aloadN X11.here hexec rfl (hb hbytes d36) rfl rfl ?_
        exact Steps.refl _)
      obtain ⟨T14, X14, q14, st14⟩ := X11.hget hexec hown (wk W (.fieldLink "java/lang/String" 9 "java/lang/String" "value" "[B")) (hx.mv X11.warmed.alike hh11).2.1 (g := (mkF m 37 #[.val (.ref x), .val (.ref y), .val (.ref y)] [.ref x])) rfl (rest := []) rfl (hb hbytes d37)
      have hh14 := q14.trans hh11
      have c15 : Steps p.tables e below (s₁.setTop (entryFrame m #[.ref x, .ref y] 3)) (T14.setTop (mkF m 41 #[.val (.ref x), .val (.ref y), .val (.ref y)] [.ref y, .ref t])) := (c13.trans (st14 _ (Steps.refl _))).trans (by
        refine XS.aloadN X14.here hexec rfl (hb hbytes d40) rfl rfl ?_
        exact Steps.refl _)
      obtain ⟨T16, X16, q16, st16⟩ := X14.hget hexec hown (wk W (.fieldLink "java/lang/String" 9 "java/lang/String" "value" "[B")) (hy.mv X14.warmed.alike hh14).2.1 (g := (mkF m 41 #[.val (.ref x), .val (.ref y), .val (.ref y)] [.ref y, .ref t])) rfl (rest := [.ref t]) rfl (hb hbytes d41)
      have hh16 := q16.trans hh14
      have c17 : Steps p.tables e below (s₁.setTop (entryFrame m #[.ref x, .ref y] 3)) (T16.setTop (mkF m 44 #[.val (.ref x), .val (.ref y), .val (.ref y)] [.ref t', .ref t])) := c15.trans (st16 _ (Steps.refl _))
      obtain ⟨v18, T18, X18, E18, g18⟩ := X16.callS hexec (LEq.law l t V t' V') hown (wks W (staticW "java/lang/String" 541 LEq.yN)) (wk W LEq.tab) (W := 0) (Nat.le_of_ble_eq_true rfl) (Nat.le_of_ble_eq_true rfl) (Nat.le_refl _) (Nat.le_refl _) (g := (mkF m 44 #[.val (.ref x), .val (.ref y), .val (.ref y)] [.ref t', .ref t])) rfl (by rw [hml]; rfl) c17 (argsL := [.ref t, .ref t']) (rest := []) rfl rfl (by show 2 * 0 + 0 ≤ _; decide) (hb hbytes d44) (⟨rfl, hx.2.2.2.1.mv X16.warmed.alike hh16, hx.2.2.2.2.1.ty, hy.2.2.2.1.mv X16.warmed.alike hh16, hy.2.2.2.2.1.ty⟩)
      obtain ⟨v, rfl, q18, hv⟩ := E18
      have iff := Cod.eqv hx.2.2.2.2.1 hy.2.2.2.2.1 hx.2.2.2.2.2 hy.2.2.2.2.2
      rcases hv with ⟨rfl, he⟩ | ⟨rfl, he⟩
      · have c19 : Steps p.tables e below (s₁.setTop (entryFrame m #[.ref x, .ref y] 3)) (T18.setTop (mkF m 55 #[.val (.ref x), .val (.ref y), .val (.ref y)] [.int 1])) := Steps.trans g18 (by
          refine XS.ifNo X18.here hexec rfl (hb hbytes d47) rfl (i0_eq_f (by decide)) ?_
          refine iconstV X18.here hexec rfl 1 (hb hbytes d50) (by decide) ?_
          refine XS.goto X18.here hexec rfl (pc0 := 51) rfl (hb hbytes d51) (by decide) rfl ?_
          exact Steps.refl _)
        exact ⟨T18, some (.int 1), _, _, _, X18, rfl, rfl, rfl, (fun h => by cases h), ⟨1, rfl, q18.trans hh16, Or.inl ⟨rfl, iff.mp he⟩⟩, fun fs hl => c19.trans (X18.ireturnOut hexec hret rfl (Or.inr (Or.inl rfl)) (hb hbytes d55) hl)⟩
      · have c19 : Steps p.tables e below (s₁.setTop (entryFrame m #[.ref x, .ref y] 3)) (T18.setTop (mkF m 55 #[.val (.ref x), .val (.ref y), .val (.ref y)] [.int 0])) := Steps.trans g18 (by
          refine XS.ifYes X18.here hexec rfl (pc0 := 47) rfl (hb hbytes d47) rfl (i0_eq_t rfl) (by decide) rfl ?_
          refine iconstV X18.here hexec rfl 0 (hb hbytes d54) (by decide) ?_
          exact Steps.refl _)
        exact ⟨T18, some (.int 0), _, _, _, X18, rfl, rfl, rfl, (fun h => by cases h), ⟨0, rfl, q18.trans hh16, Or.inr ⟨rfl, fun q => he (iff.mpr q)⟩⟩, fun fs hl => c19.trans (X18.ireturnOut hexec hret rfl (Or.inr (Or.inl rfl)) (hb hbytes d55) hl)⟩
    · have c13 : Steps p.tables e below (s₁.setTop (entryFrame m #[.ref x, .ref y] 3)) (T11.setTop (mkF m 55 #[.val (.ref x), .val (.ref y), .val (.ref y)] [.int 0])) := c12.trans (by
        refine XS.icmpYes X11.here hexec rfl (pc0 := 33) rfl (hb hbytes d33) rfl (ii_ne_t hcd) (by decide) rfl ?_
        refine iconstV X11.here hexec rfl 0 (hb hbytes d54) (by decide) ?_
        exact Steps.refl _)
      exact ⟨T11, some (.int 0), _, _, _, X11, rfl, rfl, rfl, (fun h => by cases h), ⟨0, rfl, hh11, Or.inr ⟨rfl, Cod.dif hx.2.2.2.2.1 hy.2.2.2.2.1 hcd⟩⟩, fun fs hl => c13.trans (X11.ireturnOut hexec hret rfl (Or.inr (Or.inl rfl)) (hb hbytes d55) hl)⟩
theorem pays {l : Launch} {R : Room} {p : Program} {e : Env} {below : List Frame} {s : State} {sargs : Array Value} {len W : Nat} (x t : Addr) (V : Cell) (cd : Int32) (n : Nat) (f : Nat → Int32) (y t' : Addr) (V' : Cell) (cd' : Int32) (k : Nat) (g : Nat → Int32) (z : Int32) (htab : tab.before sargs s = true) (hfr : 2 ≤ R.frames) (hlo : W + 28 ≤ R.locals) :
    Back l R p e below s sargs yN len W (fun A₁ a₁ => A₁.cells + 0 ≤ R.cells ∧ A₁.slots + 0 ≤ R.slots ∧ P x t V cd n f y t' V' cd' k g z a₁ A₁.U) (fun A₁ _ v₁ B₁ => Says01 (SameT n f k g) v₁ A₁.U B₁.U ∧ B₁.locs = A₁.locs ++ [] ∧ B₁.cells = A₁.cells + 0 ∧ B₁.slots = A₁.slots + 0) :=
  (law l x t V cd n f y t' V' cd' k g z).pays htab hfr (by omega)
end SEq
end StrChars
namespace StrChars.Road
open Jvm Sem ClassFile Op Lib Jvm.Stand Jvm.Free Jvm.Free.XT
open Jvm.Lib.Cold (StaticIs)
/-- the words of String.isEmpty() -/
abbrev wordsEmp : List Jvm.Cond := [.code Emp.yN Emp.yB 1 (some .boolean), .initialized ST, .fieldLink ST 9 ST "value" "[B"]
theorem tabEmp_of {a : Array Value} {s : State} (h : ∀ w ∈ wordsEmp, w.before a s = true) : Emp.tab.before a s = true := unparts (wk h (.code Emp.yN Emp.yB 1 (some .boolean))) (wks h (.initialized Emp.yN.cls :: Emp.site))
theorem movedEmp {Z s : State} {a0 args : Array Value} (hZ : Z.Warmed39 s.vm) (hw : ∀ d ∈ wordsEmp, d.before a0 Z = true) : ∀ d ∈ wordsEmp, d.before args s = true := fun d hd => by
  have t : ∀ d ∈ wordsEmp, (d.onTables && d.keepsFace) = true := by decide +kernel
  exact RoadKit.mv hZ (hw d hd) (t d hd)
/-- the words of String.equals(Object) -/
abbrev wordsEq : List Jvm.Cond := [.code SEq.yN SEq.yB 3 (some .boolean), .initialized ST, .classLink ST 10 ST, .fieldLink ST 38 ST "COMPACT_STRINGS" "Z", .fieldLink ST 15 ST "coder" "B", .fieldLink ST 9 ST "value" "[B", .methodLink ST 541 LEq.yN, .static LEq.yN, .code LEq.yN LEq.yB 3 (some .boolean), .initialized "java/lang/StringLatin1"]
theorem tabEq_of {a : Array Value} {s : State} (h : ∀ w ∈ wordsEq, w.before a s = true) : SEq.tab.before a s = true := by
  have hl : LEq.tab.before a s = true := unparts (wk h (.code LEq.yN LEq.yB 3 (some .boolean))) (wks h (.initialized LEq.yN.cls :: LEq.site))
  have q := consq hl h
  exact unparts (wk q (.code SEq.yN SEq.yB 3 (some .boolean))) (wks q (.initialized SEq.yN.cls :: SEq.site))
theorem movedEq {Z s : State} {a0 args : Array Value} (hZ : Z.Warmed39 s.vm) (hw : ∀ d ∈ wordsEq, d.before a0 Z = true) : ∀ d ∈ wordsEq, d.before args s = true := fun d hd => by
  have t : ∀ d ∈ wordsEq, (d.onTables && d.keepsFace) = true := by decide +kernel
  exact RoadKit.mv hZ (hw d hd) (t d hd)
/-- the road's facts of a String, as the laws ask it -/
theorem txt_of {Z U : State} {a0 : Array Value} {kI : Nat} (wi : (Jvm.Cond.instantiable ST kI).before a0 Z = true) (al : Z.vm.Alike U.vm) {x t : Addr} {kb : ClassId} {cs : List Int32} {cd N2 : Int32} {vs : List Value} (E : RoadKit.Exa Z U.heap x ST) (V : RoadKit.Fld Z U.heap x ST "value" "[B" (.ref t)) (C : RoadKit.Fld Z U.heap x ST "coder" "B" (.int cd)) (K : RoadKit.Arv Z U.heap t kb .byte N2 vs (.int 0)) (hc : CodA cs cd N2 vs) (hb : ∀ c ∈ cs, ¬ c < 0 ∧ ¬ (65535 : Int32) < c) (l2 : cs.length ≤ 4000) :
    ∃ A, Txt x t A cd cs.length (fun j => cs.getD j 0) U := by
  obtain ⟨A, K1, K2, K3, K4, K5, K6⟩ := K
  have hcod := hc.cod (by omega) K3 K5
  obtain ⟨D, fV, fC, hB, F1, F2, g1, g2, -, -⟩ := strObj wi al E V C
  exact ⟨A, ⟨_, hB.2.2.1, D, hB.1, rfl, by cases q : D.vm <;> first | rfl | exact absurd q (hB.2.1.2 _)⟩, Has.of hB F1 g1, Has.of hB F2 g2, ⟨K1.1, State.isArrayOf_alike al K1.2.1, K1.2.2, by rcases hcod with ⟨-, q, -⟩ | ⟨-, q, -⟩ <;> omega⟩, hcod, fun j hj => by
    have e : cs.getD j 0 = cs[j] := by simp [List.getD_eq_getElem?_getD, hj]
    show ¬ cs.getD j 0 < 0 ∧ ¬ 65535 < cs.getD j 0
    rw [e]; exact hb _ (List.getElem_mem _)⟩
theorem same_list (cs ds : List Int32) : SameT cs.length (fun j => cs.getD j 0) ds.length (fun j => ds.getD j 0) ↔ cs = ds := by
  constructor
  · rintro ⟨e, q⟩
    refine List.ext_getElem e fun j h1 h2 => ?_
    have := q j h1
    simpa [List.getD_eq_getElem?_getD, h1, h2] using this
  · rintro rfl
    exact ⟨rfl, fun _ _ => rfl⟩
/-- **isEmpty() OF SUCH A STRING** -/
theorem empW {p : Program} {l : Launch} {e : Env} {R : Room} {s : State} {args : Array Value} {below : List Frame} {len W : Nat} {Z : State} {a0 : Array Value} {h : Heap} (hZ : Z.Warmed39 s.vm) (hw : ∀ d ∈ wordsEmp, d.before a0 Z = true) {kI : Nat} (wi : (Jvm.Cond.instantiable ST kI).before a0 Z = true)
    {x t : Addr} {kb : ClassId} {cs : List Int32} {cd N2 : Int32} {vs : List Value} (E : RoadKit.Exa Z h x ST) (V : RoadKit.Fld Z h x ST "value" "[B" (.ref t)) (C : RoadKit.Fld Z h x ST "coder" "B" (.int cd)) (K : RoadKit.Arv Z h t kb .byte N2 vs (.int 0)) (hc : CodA cs cd N2 vs) (hb : ∀ c ∈ cs, ¬ c < 0 ∧ ¬ (65535 : Int32) < c) (l2 : cs.length ≤ 4000) (hfr : 1 ≤ R.frames) (hlo : W + 12 ≤ R.locals) :
    Back l R p e below s args (⟨"java/lang/String", "isEmpty", "()Z"⟩ : MethodName) len W (fun P a => a = #[.ref x] ∧ P.U.heap = h ∧ P.cells + 0 ≤ R.cells ∧ P.slots + 0 ≤ R.slots)
      (fun P _ v B => ∃ L, (v = some (.int (if cs.length = 0 then 1 else 0)) ∧ L = [] ∧ B.U.heap = h) ∧ B.locs = P.locs ++ L ∧ B.cells = P.cells + 0 ∧ B.slots = P.slots + 0) := by
  intro m meth c P g ig mk a X hg hsize hdg hW hn hp'
  obtain ⟨rfl, rfl, r1, r2⟩ := hp'
  have al : Z.vm.Alike P.U.vm := hZ.alike.trans X.warmed.alike
  obtain ⟨A, hx⟩ := txt_of wi al E V C K hc hb l2
  obtain ⟨v, B, X', ⟨⟨hv, hh⟩, hl, hk, hs⟩, st⟩ := Emp.pays x t A cd cs.length (fun j => cs.getD j 0) (tabEmp_of (movedEmp hZ hw)) hfr hlo m meth c P g ig mk _ X hg hsize hdg hW hn ⟨r1, r2, rfl, hx⟩
  exact ⟨v, B, X', ⟨[], ⟨hv, rfl, hh⟩, hl, hk, hs⟩, st⟩
/-- **equals(Object) OF TWO SUCH STRINGS**: 1 just where the chars are the same -/
theorem eqW {p : Program} {l : Launch} {e : Env} {R : Room} {s : State} {args : Array Value} {below : List Frame} {len W : Nat} {Z : State} {a0 : Array Value} {h : Heap} (hZ : Z.Warmed39 s.vm) (hw : ∀ d ∈ wordsEq, d.before a0 Z = true) {kI : Nat} (wi : (Jvm.Cond.instantiable ST kI).before a0 Z = true)
    {x t : Addr} {kb : ClassId} {cs : List Int32} {cd N2 : Int32} {vs : List Value} (E : RoadKit.Exa Z h x ST) (V : RoadKit.Fld Z h x ST "value" "[B" (.ref t)) (C : RoadKit.Fld Z h x ST "coder" "B" (.int cd)) (K : RoadKit.Arv Z h t kb .byte N2 vs (.int 0)) (hc : CodA cs cd N2 vs) (hb : ∀ c ∈ cs, ¬ c < 0 ∧ ¬ (65535 : Int32) < c) (l2 : cs.length ≤ 4000)
    {y t' : Addr} {kb' : ClassId} {ds : List Int32} {cd' N2' : Int32} {vs' : List Value} (E' : RoadKit.Exa Z h y ST) (V' : RoadKit.Fld Z h y ST "value" "[B" (.ref t')) (C' : RoadKit.Fld Z h y ST "coder" "B" (.int cd')) (K' : RoadKit.Arv Z h t' kb' .byte N2' vs' (.int 0)) (hc' : CodA ds cd' N2' vs') (hb' : ∀ c ∈ ds, ¬ c < 0 ∧ ¬ (65535 : Int32) < c) (l2' : ds.length ≤ 4000)
    {z : Int32} (S : RoadKit.Sta Z h ST "COMPACT_STRINGS" "Z" (.int z)) (hz : ¬ z = 0) (hfr : 2 ≤ R.frames) (hlo : W + 28 ≤ R.locals) :
    Back l R p e below s args (⟨"java/lang/String", "equals", "(Ljava/lang/Object;)Z"⟩ : MethodName) len W (fun P a => a = #[.ref x, .ref y] ∧ P.U.heap = h ∧ P.cells + 0 ≤ R.cells ∧ P.slots + 0 ≤ R.slots)
      (fun P _ v B => ∃ L, (((v = some (.int 1) ∧ cs = ds) ∨ (v = some (.int 0) ∧ ¬ cs = ds)) ∧ L = [] ∧ B.U.heap = h) ∧ B.locs = P.locs ++ L ∧ B.cells = P.cells + 0 ∧ B.slots = P.slots + 0) := by
  intro m meth c P g ig mk a X hg hsize hdg hW hn hp'
  obtain ⟨rfl, rfl, r1, r2⟩ := hp'
  have al : Z.vm.Alike P.U.vm := hZ.alike.trans X.warmed.alike
  obtain ⟨A, hx⟩ := txt_of wi al E V C K hc hb l2
  obtain ⟨A', hy⟩ := txt_of wi al E' V' C' K' hc' hb' l2'
  obtain ⟨v, B, X', ⟨⟨w, hv, hh, hq⟩, hl, hk, hs⟩, st⟩ := SEq.pays x t A cd cs.length (fun j => cs.getD j 0) y t' A' cd' ds.length (fun j => ds.getD j 0) z (tabEq_of (movedEq hZ hw)) hfr hlo m meth c P g ig mk _ X hg hsize hdg hW hn ⟨r1, r2, rfl, hx, hy, sta_is al S, hz⟩
  refine ⟨v, B, X', ⟨[], ⟨?_, rfl, hh⟩, hl, hk, hs⟩, st⟩
  rcases hq with ⟨rfl, q⟩ | ⟨rfl, q⟩
  · exact Or.inl ⟨hv, (same_list cs ds).mp q⟩
  · exact Or.inr ⟨hv, fun e => q ((same_list cs ds).mpr e)⟩
end StrChars.Road
namespace StrChars
open Jvm Sem ClassFile Op Lib Jvm.Stand Jvm.Free.XT Jvm.Free.ALB Jvm.Free.JM Jvm.Free
open Jvm.Lib.Cold (StaticIs)
namespace ChN
def yN : MethodName := ⟨"java/lang/String", "charAt", "(I)C"⟩
abbrev yB : ByteArray := jdk_42_method_56_code
theorem d0 : decode yB 0 = .ok (.aload_n 0, 1) := by decide +kernel
theorem d1 : decode yB 1 = .ok (.invokevirtual 492, 3) := by decide +kernel
theorem d4 : decode yB 4 = .ok (.ifCond (.eq) 12, 3) := by decide +kernel
theorem d7 : decode yB 7 = .ok (.aload_n 0, 1) := by decide +kernel
theorem d8 : decode yB 8 = .ok (.getfield 9, 3) := by decide +kernel
theorem d11 : decode yB 11 = .ok (.iload_n 1, 1) := by decide +kernel
theorem d12 : decode yB 12 = .ok (.invokestatic 495, 3) := by decide +kernel
theorem d15 : decode yB 15 = .ok (.ireturn, 1) := by decide +kernel
def site : List Cond := [.fieldLink "java/lang/String" 9 "java/lang/String" "value" "[B", IsL.tab, LChA.tab] ++ virtW "java/lang/String" 492 "java/lang/String" IsL.yN IsL.yN ++ staticW "java/lang/String" 495 LChA.yN
def tab : Cond := tabOf yN yB 2 (some .char) site
def P (x t : Addr) (V : Cell) (n : Nat) (f : Nat → Int32) (z : Int32) (fm : Value) (i : Nat) (args : Array Value) (s : State) : Prop := args = #[.ref x, .int (Int32.ofNat i)] ∧ Txt x t V 0 n f s ∧ i < n ∧ StaticIs s "java/lang/String" "COMPACT_STRINGS" "Z" (.int z) ∧ ¬ z = 0 ∧ StaticIs s "jdk/internal/util/Preconditions" "SIOOBE_FORMATTER" "Ljava/util/function/BiFunction;" fm ∧ fm.isRef = true
def E (f : Nat → Int32) (i : Nat) (r : Option Value) (s u : State) : Prop := XT.PureE (some (.int (f i))) r s u
/-- charAt(i) of a Latin-1 String of n chars, i < n: f i -/
theorem law (l : Launch) (x t : Addr) (V : Cell) (n : Nat) (f : Nat → Int32) (z : Int32) (fm : Value) (i : Nat) : Law l yN 2 1 3 40 yB 2 (some .char) site (P x t V n f z fm i) (E f i) [] 0 0 := by
  refine Law.of_walk (plainFor_of_name (by decide +kernel)) (by decide +kernel) (by decide +kernel) (by decide) (fun _ _ h => by rw [h.1]; rfl) (fun _ U U' hal hh h => ⟨h.1, h.2.1.mv hal hh, h.2.2.1, h.2.2.2.1.there hal hh, h.2.2.2.2.1, h.2.2.2.2.2.1.there hal hh, h.2.2.2.2.2.2⟩) (fun r U U' V V' h1 hal h2 h => XT.PureE.mv r U U' V V' h1 hal h2 h) ?_
  intro p e s m args below meth c s₁ X0 hexec hbytes hml hret hlk hnm hown hh0 W hP
  obtain ⟨rfl, hx, hi, s1, hz, s3, rf⟩ := hP
  have v31 := hx.2.2.2.1.2.2.2
  have hr := hx.2.2.2.2.2 i hi
  have hx0 := hx.mv X0.warmed.alike hh0
  have c1 : Steps p.tables e below (s₁.setTop (entryFrame m #[.ref x, .int (Int32.ofNat i)] 2)) (s₁.setTop (mkF m 1 #[.val (.ref x), .val (.int (Int32.ofNat i))] [.ref x])) := Steps.trans (entry rfl) (by
    show Steps p.tables e below (s₁.setTop (mkF m 0 #[.val (.ref x), .val (.int (Int32.ofNat i))] [])) _
    refine XS.aloadN X0.here hexec rfl (hb hbytes d0) rfl rfl ?_
    exact Steps.refl _)
  obtain ⟨v2, T2, X2, E2, g2⟩ := X0.callV hexec (IsL.law l x 0 z) hown (wks W (virtW "java/lang/String" 492 "java/lang/String" IsL.yN IsL.yN)) rfl (by decide) (wk W IsL.tab) (W := 0) (Nat.le_of_ble_eq_true rfl) (Nat.le_of_ble_eq_true rfl) (Nat.le_refl _) (Nat.le_refl _) (hx0.1.fc X0.warmed.alike) hx0.1.is (g := (mkF m 1 #[.val (.ref x), .val (.int (Int32.ofNat i))] [.ref x])) rfl (by rw [hml]; rfl) c1 (argsL := []) (rest := []) rfl rfl (by show 2 * 0 + 0 ≤ _; decide) (hb hbytes d1) (⟨rfl, hx0.2.2.1, hx.2.2.2.2.1.cd, s1.there X0.warmed.alike hh0, hz⟩)
  obtain ⟨rfl, q2⟩ := E2
  have hh2 := q2.trans hh0
  have hx2 := hx.mv X2.warmed.alike hh2
  obtain ⟨-, k1, k2⟩ | ⟨k0, -⟩ := hx.2.2.2.2.1
  · have c3 : Steps p.tables e below (s₁.setTop (entryFrame m #[.ref x, .int (Int32.ofNat i)] 2)) (T2.setTop (mkF m 8 #[.val (.ref x), .val (.int (Int32.ofNat i))] [.ref x])) := Steps.trans g2 (by
      refine XS.ifNo X2.here hexec rfl (hb hbytes d4) rfl (i0_eq_f (by decide)) ?_
      refine XS.aloadN X2.here hexec rfl (hb hbytes d7) rfl rfl ?_
      exact Steps.refl _)
    obtain ⟨T4, X4, q4, st4⟩ := X2.hget hexec hown (wk W (.fieldLink "java/lang/String" 9 "java/lang/String" "value" "[B")) hx2.2.1 (g := (mkF m 8 #[.val (.ref x), .val (.int (Int32.ofNat i))] [.ref x])) rfl (rest := []) rfl (hb hbytes d8)
    have hh4 := q4.trans hh2
    have c5 : Steps p.tables e below (s₁.setTop (entryFrame m #[.ref x, .int (Int32.ofNat i)] 2)) (T4.setTop (mkF m 12 #[.val (.ref x), .val (.int (Int32.ofNat i))] [.int (Int32.ofNat i), .ref t])) := (c3.trans (st4 _ (Steps.refl _))).trans (by
      refine XS.iloadN X4.here hexec rfl (hb hbytes d11) rfl ?_
      exact Steps.refl _)
    obtain ⟨v6, T6, X6, E6, g6⟩ := X4.callS hexec (LChA.law l t V i (lo8 (f i)) fm) hown (wks W (staticW "java/lang/String" 495 LChA.yN)) (wk W LChA.tab) (W := 0) (Nat.le_of_ble_eq_true rfl) (Nat.le_of_ble_eq_true rfl) (Nat.le_refl _) (Nat.le_refl _) (g := (mkF m 12 #[.val (.ref x), .val (.int (Int32.ofNat i))] [.int (Int32.ofNat i), .ref t])) rfl (by rw [hml]; rfl) c5 (argsL := [.ref t, .int (Int32.ofNat i)]) (rest := []) rfl rfl (by show 2 * 0 + 0 ≤ _; decide) (hb hbytes d12) (⟨rfl, hx.2.2.2.1.mv X4.warmed.alike hh4, (k2 i hi).1, s3.there X4.warmed.alike hh4, rf⟩)
    obtain ⟨rfl, q6⟩ := E6
    rw [chr8_lo8 hr.1 (k2 i hi).2] at g6
    exact ⟨T6, some (.int (f i)), _, _, _, X6, rfl, rfl, rfl, (fun h => by cases h), ⟨rfl, q6.trans hh4⟩, fun fs hl => Steps.trans g6 (X6.ireturnOut hexec hret (narrow_ch hr.1 hr.2) (Or.inr (Or.inr (Or.inr (Or.inl rfl)))) (hb hbytes d15) hl)⟩
  · exact absurd k0 (by decide)
theorem pays {l : Launch} {R : Room} {p : Program} {e : Env} {below : List Frame} {s : State} {sargs : Array Value} {len W : Nat} (x t : Addr) (V : Cell) (n : Nat) (f : Nat → Int32) (z : Int32) (fm : Value) (i : Nat) (htab : tab.before sargs s = true) (hfr : 4 ≤ R.frames) (hlo : W + 53 ≤ R.locals) :
    Back l R p e below s sargs yN len W (fun A₁ a₁ => A₁.cells + 0 ≤ R.cells ∧ A₁.slots + 0 ≤ R.slots ∧ P x t V n f z fm i a₁ A₁.U) (fun A₁ _ v₁ B₁ => E f i v₁ A₁.U B₁.U ∧ B₁.locs = A₁.locs ++ [] ∧ B₁.cells = A₁.cells + 0 ∧ B₁.slots = A₁.slots + 0) :=
  (law l x t V n f z fm i).pays htab hfr (by omega)
end ChN
end StrChars
namespace StrChars.Road
open Jvm Sem ClassFile Op Lib Jvm.Stand Jvm.Free Jvm.Free.XT
open Jvm.Lib.Cold (StaticIs)
/-- the words of String.charAt(int), the Latin-1 road alone -/
abbrev wordsChN : List Jvm.Cond := [.code ChN.yN ChN.yB 2 (some .char), .initialized ST, .fieldLink ST 9 ST "value" "[B", .fieldLink ST 38 ST "COMPACT_STRINGS" "Z", .fieldLink ST 15 ST "coder" "B", .code IsL.yN IsL.yB 1 (some .boolean), .methodLink ST 492 IsL.yN, .declares IsL.yN, .selects ST IsL.yN IsL.yN, .instanceMethod IsL.yN,
  .methodLink ST 495 LChA.yN, .static LChA.yN, .code LChA.yN LChA.yB 2 (some .char), .initialized "java/lang/StringLatin1", .methodLink "java/lang/StringLatin1" 9 JO.Str_checkIndex.yN, .static JO.Str_checkIndex.yN, .code JO.Str_checkIndex.yN JO.Str_checkIndex.yB 2 none,
  .fieldLink ST 1053 "jdk/internal/util/Preconditions" "SIOOBE_FORMATTER" "Ljava/util/function/BiFunction;", .methodLink ST 1059 JC.PreCheck.yN, .static JC.PreCheck.yN, .code JC.PreCheck.yN JC.PreCheck.yB 3 (some .int), .initialized "jdk/internal/util/Preconditions"]
theorem tabChN_of {a : Array Value} {s : State} (h : ∀ w ∈ wordsChN, w.before a s = true) : ChN.tab.before a s = true := by
  have hp : JC.PreCheck.tab.before a s = true := unparts (wk h (.code JC.PreCheck.yN JC.PreCheck.yB 3 (some .int))) (wks h (.initialized JC.PreCheck.yN.cls :: JC.PreCheck.site))
  have qk := consq hp h
  have hk : JO.Str_checkIndex.tab.before a s = true := unparts (wk qk (.code JO.Str_checkIndex.yN JO.Str_checkIndex.yB 2 none)) (wks qk (.initialized JO.Str_checkIndex.yN.cls :: JO.Str_checkIndex.site))
  have ql := consq hk h
  have hl : LChA.tab.before a s = true := unparts (wk ql (.code LChA.yN LChA.yB 2 (some .char))) (wks ql (.initialized LChA.yN.cls :: LChA.site))
  have hi : IsL.tab.before a s = true := unparts (wk h (.code IsL.yN IsL.yB 1 (some .boolean))) (wks h (.initialized IsL.yN.cls :: IsL.site))
  have q := consq hi (consq hl h)
  exact unparts (wk q (.code ChN.yN ChN.yB 2 (some .char))) (wks q (.initialized ChN.yN.cls :: ChN.site))
theorem movedChN {Z s : State} {a0 args : Array Value} (hZ : Z.Warmed39 s.vm) (hw : ∀ d ∈ wordsChN, d.before a0 Z = true) : ∀ d ∈ wordsChN, d.before args s = true := fun d hd => by
  have t : ∀ d ∈ wordsChN, (d.onTables && d.keepsFace) = true := by decide +kernel
  exact RoadKit.mv hZ (hw d hd) (t d hd)
/-- **charAt(i) OF A LATIN-1 STRING**, i < n: the char -/
theorem chN {p : Program} {l : Launch} {e : Env} {R : Room} {s : State} {args : Array Value} {below : List Frame} {len W : Nat} {Z : State} {a0 : Array Value} {h : Heap} (hZ : Z.Warmed39 s.vm) (hw : ∀ d ∈ wordsChN, d.before a0 Z = true) {kI : Nat} (wi : (Jvm.Cond.instantiable ST kI).before a0 Z = true)
    {x t : Addr} {kb : ClassId} {cs : List Int32} {N2 z : Int32} {vs : List Value} {fm : Value} {i : Nat} {j : Int32} (E : RoadKit.Exa Z h x ST) (V : RoadKit.Fld Z h x ST "value" "[B" (.ref t)) (C : RoadKit.Fld Z h x ST "coder" "B" (.int 0)) (K : RoadKit.Arv Z h t kb .byte N2 vs (.int 0)) (hc : CodA cs 0 N2 vs) (hb : ∀ c ∈ cs, ¬ c < 0 ∧ ¬ (65535 : Int32) < c)
    (S : RoadKit.Sta Z h ST "COMPACT_STRINGS" "Z" (.int z)) (hz : ¬ z = 0) (F : RoadKit.Sta Z h "jdk/internal/util/Preconditions" "SIOOBE_FORMATTER" "Ljava/util/function/BiFunction;" fm) (rf : fm.isRef = true) (l2 : cs.length ≤ 4000) (hi : i < cs.length) (hj : j = Int32.ofNat i) (hfr : 4 ≤ R.frames) (hlo : W + 53 ≤ R.locals) :
    Back l R p e below s args (⟨"java/lang/String", "charAt", "(I)C"⟩ : MethodName) len W (fun P a => a = #[.ref x, .int j] ∧ P.U.heap = h ∧ P.cells + 0 ≤ R.cells ∧ P.slots + 0 ≤ R.slots)
      (fun P _ v B => ∃ L, (v = some (.int (cs.getD i 0)) ∧ L = [] ∧ B.U.heap = h) ∧ B.locs = P.locs ++ L ∧ B.cells = P.cells + 0 ∧ B.slots = P.slots + 0) := by
  subst hj
  intro m meth c P g ig mk a X hg hsize hdg hW hn hp'
  obtain ⟨rfl, rfl, r1, r2⟩ := hp'
  have al : Z.vm.Alike P.U.vm := hZ.alike.trans X.warmed.alike
  obtain ⟨A, hx⟩ := txt_of wi al E V C K hc hb l2
  obtain ⟨v, B, X', ⟨⟨hv, hh⟩, hl, hk, hs⟩, st⟩ := ChN.pays x t A cs.length (fun j => cs.getD j 0) z fm i (tabChN_of (movedChN hZ hw)) hfr hlo m meth c P g ig mk _ X hg hsize hdg hW hn ⟨r1, r2, rfl, hx, hi, sta_is al S, hz, sta_is al F, rf⟩
  exact ⟨v, B, X', ⟨[], ⟨hv, rfl, hh⟩, hl, hk, hs⟩, st⟩
/-- what backV says of its String, as the contracts of this text ask it: cs's low bytes, coder 0 -/
theorem codOf {cs : List Int32} {n : Nat} (hn : cs.length = n) (hb : ∀ c ∈ cs, ¬ 255 < c) : CodA cs 0 (Int32.ofNat n) ((cs.map lo8).map Value.int) := Or.inl ⟨rfl, by rw [hn], by simp [List.map_map, Function.comp_def], hb⟩
end StrChars.Road
end Jvm.Pilot.@@N@@
namespace Jvm.Pilot.@@N@@
open Jvm Jvm.ClassFile Sem Op Lib Jvm.Free Jvm.Stand Jvm.LawKit Jvm.RoadKit Bundle Jvm.Pilot.@@N@@.Jvm.D
/-- the run goes on from here to an end at which K holds -/
def own_Go (p : Program) (e : Env) (below : List Frame) (T : State) (g : JFrame) (K : State → Outcome → Prop) : Prop := ∃ s₂ o, Steps p.tables e below (T.setTop g) s₂ ∧ K s₂ o
section OwnGo
variable {p : Program} {l : Launch} {e : Env} {R : Room} {s : State} {m : MethodId} {args : Array Value} {below : List Frame} {meth : Method} {c : Code} {T T' s₂ : State} {o : Outcome} {locs : List Loc} {cells slots : Nat} {g g' : JFrame} {K : State → Outcome → Prop}
theorem own_enter (q : g = g') (k : own_Go p e below T g' K) : ∃ s₂ o, Steps p.tables e below (T.setTop g) s₂ ∧ K s₂ o := by subst q; exact k
theorem own_st (h : ∀ t, Steps p.tables e below (T'.setTop g') t → Steps p.tables e below (T.setTop g) t) (k : own_Go p e below T' g' K) : own_Go p e below T g K := by
  obtain ⟨s2, o, h1, h2⟩ := k
  exact ⟨s2, o, h _ h1, h2⟩
theorem own_tr (h : Steps p.tables e below (T.setTop g) (T'.setTop g')) (k : own_Go p e below T' g' K) : own_Go p e below T g K := own_st (fun _ q => h.trans q) k
theorem own_fin (h : Steps p.tables e below (T.setTop g) s₂) (k : K s₂ o) : own_Go p e below T g K := ⟨s₂, o, h, k⟩
theorem own_retI (X : Stand p l e R s m args below meth c T locs cells slots) (hx : p.tables.exec = Jvm.exec) {pc : Nat} {Ls : Array Slot} {z : Int32} {rest : List Value} (hret : meth.sig.returnType = some .int) (hd : decode c.code pc = .ok (.ireturn, 1)) {fs : List Frame}
    (hl : ∀ (f : JFrame) (acts : List Action), f.method = m → f.locked = none → f.entered = [] → (doReturn e (T.setTop f) acts (some (.int z))).1 = T.setFrames fs) : Steps p.tables e below (T.setTop (mkF m pc Ls (.int z :: rest))) (T.setFrames fs) := by
  have hm' : T.vm.method? m = some meth := X.method'
  have hn : narrow .int (.int z) = .int z := rfl
  show Steps p.tables e below (T.setTop { method := m, pc := pc, locals := Ls, stack := _ :: rest, locked := none }) _
  jvm_step X.here [X.here.top, hx, hd, hm', hret, hn]
  first | (intro acts; rw [hl _ acts rfl rfl rfl]) | rw [hl _ _ rfl rfl rfl]
  exact Steps.refl _
theorem own_retD (X : Stand p l e R s m args below meth c T locs cells slots) (hx : p.tables.exec = Jvm.exec) {pc : Nat} {Ls : Array Slot} {z : UInt64} {rest : List Value} (hret : meth.sig.returnType = some .double) (hd : decode c.code pc = .ok (.dreturn, 1)) {fs : List Frame}
    (hl : ∀ (f : JFrame) (acts : List Action), f.method = m → f.locked = none → f.entered = [] → (doReturn e (T.setTop f) acts (some (.double z))).1 = T.setFrames fs) : Steps p.tables e below (T.setTop (mkF m pc Ls (.double z :: rest))) (T.setFrames fs) := by
  have hm' : T.vm.method? m = some meth := X.method'
  have hn : narrow .double (.double z) = .double z := rfl
  show Steps p.tables e below (T.setTop { method := m, pc := pc, locals := Ls, stack := _ :: rest, locked := none }) _
  jvm_step X.here [X.here.top, hx, hd, hm', hret, hn]
  first | (intro acts; rw [hl _ acts rfl rfl rfl]) | rw [hl _ _ rfl rfl rfl]
  exact Steps.refl _
theorem own_retL (X : Stand p l e R s m args below meth c T locs cells slots) (hx : p.tables.exec = Jvm.exec) {pc : Nat} {Ls : Array Slot} {z : Int64} {rest : List Value} (hret : meth.sig.returnType = some .long) (hd : decode c.code pc = .ok (.lreturn, 1)) {fs : List Frame}
    (hl : ∀ (f : JFrame) (acts : List Action), f.method = m → f.locked = none → f.entered = [] → (doReturn e (T.setTop f) acts (some (.long z))).1 = T.setFrames fs) : Steps p.tables e below (T.setTop (mkF m pc Ls (.long z :: rest))) (T.setFrames fs) := by
  have hm' : T.vm.method? m = some meth := X.method'
  have hn : narrow .long (.long z) = .long z := rfl
  show Steps p.tables e below (T.setTop { method := m, pc := pc, locals := Ls, stack := _ :: rest, locked := none }) _
  jvm_step X.here [X.here.top, hx, hd, hm', hret, hn]
  first | (intro acts; rw [hl _ acts rfl rfl rfl]) | rw [hl _ _ rfl rfl rfl]
  exact Steps.refl _
theorem own_retR (X : Stand p l e R s m args below meth c T locs cells slots) (hx : p.tables.exec = Jvm.exec) {pc : Nat} {Ls : Array Slot} {z : Value} {t : FieldType} {rest : List Value} (hz : z.isRef = true) (hret : meth.sig.returnType = some t) (ht : t.isReference = true) (hd : decode c.code pc = .ok (.areturn, 1)) {fs : List Frame}
    (hl : ∀ (f : JFrame) (acts : List Action), f.method = m → f.locked = none → f.entered = [] → (doReturn e (T.setTop f) acts (some z)).1 = T.setFrames fs) : Steps p.tables e below (T.setTop (mkF m pc Ls (z :: rest))) (T.setFrames fs) := by
  have hm' : T.vm.method? m = some meth := X.method'
  show Steps p.tables e below (T.setTop { method := m, pc := pc, locals := Ls, stack := _ :: rest, locked := none }) _
  jvm_step X.here [X.here.top, hx, hd, hm', hret, hz, ht]
  first | (intro acts; rw [hl _ acts rfl rfl rfl]) | rw [hl _ _ rfl rfl rfl]
  exact Steps.refl _
end OwnGo
theorem own_up (cs : List Int32) (h : ∀ c ∈ cs, ¬ c < 0 ∧ ¬ (255 : Int32) < c) : ∀ c ∈ cs, ¬ c < 0 ∧ ¬ (65535 : Int32) < c := fun c hc => ⟨(h c hc).1, fun q => (h c hc).2 (by rw [Int32.lt_iff_toInt_lt] at q ⊢; have e1 : (65535 : Int32).toInt = 65535 := rfl; have e2 : (255 : Int32).toInt = 255 := rfl; omega)⟩
theorem own_c255 (x : Int32) (h0 : 0 ≤ x.toInt) (h1 : x.toInt ≤ 255) : nar .char (x.toUInt32.toUInt16.toUInt32.toInt32) = x := by
  have e : x.toUInt32.toUInt16.toUInt32.toInt32 = x := by
    have h := c_i2c x
    apply Int32.toInt_inj.mp
    omega
  show (x.toUInt32.toUInt16.toUInt32.toInt32).toUInt32.toUInt16.toUInt32.toInt32 = x
  rw [e, e]
theorem own_in255 (x : Int32) (h0 : 0 ≤ x.toInt) (h1 : x.toInt ≤ 255) : ¬ x < 0 ∧ ¬ (255 : Int32) < x := by
  constructor
  · rw [Int32.lt_iff_toInt_lt]; have : (0 : Int32).toInt = 0 := rfl; omega
  · rw [Int32.lt_iff_toInt_lt]; have : (255 : Int32).toInt = 255 := rfl; omega
theorem own_m255 (x : Int32) : 0 ≤ (x &&& (255 : Int32)).toInt ∧ (x &&& (255 : Int32)).toInt ≤ 255 := by
  have h := c_and x 255 (by decide)
  exact h
theorem own_narc (x : Int32) : nar .char ((x &&& (255 : Int32)).toUInt32.toUInt16.toUInt32.toInt32) = x &&& (255 : Int32) := own_c255 _ (own_m255 x).1 (own_m255 x).2
def own_EL : List (String × Nat) := []
theorem own_EW {Z : State} {a0 : Array Value} (hw : ∀ d ∈ tables_1, d.before a0 Z = true) : EW Z a0 own_EL := EW.nil
theorem own_wS {Z : State} {a0 : Array Value} (hw : ∀ d ∈ tables_1, d.before a0 Z = true) : ∀ a ∈ Bundle.stringAtoms, a.before a0 Z = true := fun d hd => hw d ((by decide +kernel : ∀ d ∈ Bundle.stringAtoms, d ∈ tables_1) d hd)
/-- letters, digits, '-', '_', '.' -/
def own_al (c : Int32) : Prop := (97 ≤ c.toInt ∧ c.toInt ≤ 122) ∨ (65 ≤ c.toInt ∧ c.toInt ≤ 90) ∨ (48 ≤ c.toInt ∧ c.toInt ≤ 57) ∨ c.toInt = 45 ∨ c.toInt = 95 ∨ c.toInt = 46
theorem own_al255 {c : Int32} (h : own_al c) : ¬ c < 0 ∧ ¬ (255 : Int32) < c := own_in255 c (by unfold own_al at h; omega) (by unfold own_al at h; omega)
theorem own_alnar {c : Int32} (h : own_al c) : nar .char c = c := by
  have e : c.toUInt32.toUInt16.toUInt32.toInt32 = c := by
    have h2 := c_i2c c
    apply Int32.toInt_inj.mp
    unfold own_al at h
    omega
  exact e
theorem own_k (x : Int32) : 0 ≤ ((x &&& (2147483647 : Int32)) % (65 : Int32)).toInt ∧ ((x &&& (2147483647 : Int32)) % (65 : Int32)).toInt ≤ 64 := by
  have h := c_and x 2147483647 (by decide)
  have hr := (c_irem (x &&& (2147483647 : Int32)) 65 65 rfl).1 h.1
  omega
theorem own_alR {k : Int32} {b : Int} {y : Int32} (hy : y.toInt = b) (h0 : 0 ≤ b) (h1 : b ≤ 255) (hal : own_al y) : own_al (nar .char (y.toUInt32.toUInt16.toUInt32.toInt32)) := by
  rw [own_c255 y (by omega) (by omega)]; exact hal
theorem own_nb (r : Int32) (h : r = 1 ∨ r = 0) : nar .boolean r = r := by rcases h with rfl | rfl <;> decide
theorem d1_0 : decode method_2_code 0 = .ok (.iload_n 0, 1) := by decide +kernel
theorem d1_1 : decode method_2_code 1 = .ok (.ldc 7, 2) := by decide +kernel
theorem d1_3 : decode method_2_code 3 = .ok (.iand, 1) := by decide +kernel
theorem d1_4 : decode method_2_code 4 = .ok (.bipush 65, 2) := by decide +kernel
theorem d1_6 : decode method_2_code 6 = .ok (.irem, 1) := by decide +kernel
theorem d1_7 : decode method_2_code 7 = .ok (.istore_n 1, 1) := by decide +kernel
theorem d1_8 : decode method_2_code 8 = .ok (.iload_n 1, 1) := by decide +kernel
theorem d1_9 : decode method_2_code 9 = .ok (.bipush 26, 2) := by decide +kernel
theorem d1_11 : decode method_2_code 11 = .ok (.if_icmp .ge 9, 3) := by decide +kernel
theorem d1_14 : decode method_2_code 14 = .ok (.bipush 97, 2) := by decide +kernel
theorem d1_16 : decode method_2_code 16 = .ok (.iload_n 1, 1) := by decide +kernel
theorem d1_17 : decode method_2_code 17 = .ok (.iadd, 1) := by decide +kernel
theorem d1_18 : decode method_2_code 18 = .ok (.i2c, 1) := by decide +kernel
theorem d1_19 : decode method_2_code 19 = .ok (.ireturn, 1) := by decide +kernel
theorem d1_20 : decode method_2_code 20 = .ok (.iload_n 1, 1) := by decide +kernel
theorem d1_21 : decode method_2_code 21 = .ok (.bipush 52, 2) := by decide +kernel
theorem d1_23 : decode method_2_code 23 = .ok (.if_icmp .ge 12, 3) := by decide +kernel
theorem d1_26 : decode method_2_code 26 = .ok (.bipush 65, 2) := by decide +kernel
theorem d1_28 : decode method_2_code 28 = .ok (.iload_n 1, 1) := by decide +kernel
theorem d1_29 : decode method_2_code 29 = .ok (.bipush 26, 2) := by decide +kernel
theorem d1_31 : decode method_2_code 31 = .ok (.isub, 1) := by decide +kernel
theorem d1_32 : decode method_2_code 32 = .ok (.iadd, 1) := by decide +kernel
theorem d1_33 : decode method_2_code 33 = .ok (.i2c, 1) := by decide +kernel
theorem d1_34 : decode method_2_code 34 = .ok (.ireturn, 1) := by decide +kernel
theorem d1_35 : decode method_2_code 35 = .ok (.iload_n 1, 1) := by decide +kernel
theorem d1_36 : decode method_2_code 36 = .ok (.bipush 62, 2) := by decide +kernel
theorem d1_38 : decode method_2_code 38 = .ok (.if_icmp .ge 12, 3) := by decide +kernel
theorem d1_41 : decode method_2_code 41 = .ok (.bipush 48, 2) := by decide +kernel
theorem d1_43 : decode method_2_code 43 = .ok (.iload_n 1, 1) := by decide +kernel
theorem d1_44 : decode method_2_code 44 = .ok (.bipush 52, 2) := by decide +kernel
theorem d1_46 : decode method_2_code 46 = .ok (.isub, 1) := by decide +kernel
theorem d1_47 : decode method_2_code 47 = .ok (.iadd, 1) := by decide +kernel
theorem d1_48 : decode method_2_code 48 = .ok (.i2c, 1) := by decide +kernel
theorem d1_49 : decode method_2_code 49 = .ok (.ireturn, 1) := by decide +kernel
theorem d1_50 : decode method_2_code 50 = .ok (.iload_n 1, 1) := by decide +kernel
theorem d1_51 : decode method_2_code 51 = .ok (.bipush 62, 2) := by decide +kernel
theorem d1_53 : decode method_2_code 53 = .ok (.if_icmp .ne 6, 3) := by decide +kernel
theorem d1_56 : decode method_2_code 56 = .ok (.bipush 45, 2) := by decide +kernel
theorem d1_58 : decode method_2_code 58 = .ok (.ireturn, 1) := by decide +kernel
theorem d1_59 : decode method_2_code 59 = .ok (.iload_n 1, 1) := by decide +kernel
theorem d1_60 : decode method_2_code 60 = .ok (.bipush 63, 2) := by decide +kernel
theorem d1_62 : decode method_2_code 62 = .ok (.if_icmp .ne 6, 3) := by decide +kernel
theorem d1_65 : decode method_2_code 65 = .ok (.bipush 95, 2) := by decide +kernel
theorem d1_67 : decode method_2_code 67 = .ok (.ireturn, 1) := by decide +kernel
theorem d1_68 : decode method_2_code 68 = .ok (.bipush 46, 2) := by decide +kernel
theorem d1_70 : decode method_2_code 70 = .ok (.ireturn, 1) := by decide +kernel
theorem pn_1 : plainName "com/example/faithful_courier/faithfulcourier/core/NameOfPinLaw" = true := by first | (simp [plainName, overriddenIn]; done) | decide +kernel
theorem ef_rmAl (m : MethodId) (x0 : Int32) : entryFrame m #[(.int x0)] 2 = mkF m 0 #[.val (.int x0), .unset] [] := by first | (simp [entryFrame, mkF, argsToLocals, Value.category]; done) | rfl
def Q_rmAl (Z : State) (x : Int32) (h0 : Heap) (n0 : Nat) (v : Option Value) (h : Heap) (L : List Loc) : Prop := ∃ r : Int32, v = some (.int r) ∧ Fr n0 L ∧ h = h0 ∧ (own_al r)
set_option maxRecDepth 65536 in
set_option maxHeartbeats 40000000 in
theorem rmAl (l : Launch) (Z : State) (a0 : Array Value) (hw : ∀ d ∈ tables_1, d.before a0 Z = true) (ws : List Jvm.Cond) (x : Int32) (h0 : Heap) (n0 : Nat) (Z0 : n0 ≤ h0.size) :
    MetFree l (⟨"com/example/faithful_courier/faithfulcourier/core/NameOfPinLaw", "allowed", "(I)C"⟩ : MethodName) (head1 (Jvm.Cond.code (⟨"com/example/faithful_courier/faithfulcourier/core/NameOfPinLaw", "allowed", "(I)C"⟩ : MethodName) method_2_code 2 (some .char) :: ws) ({ frames := 0, cells := 0, slots := 0, locals := 0 } : Room)) (fun a U => a = #[(.int x)] ∧ Z.Warmed39 U.vm ∧ U.heap = h0) (fun _ _ _ _ _ => True) (fun _ U o U' => ∃ v L, o = .returned v ∧ Q_rmAl Z x h0 n0 v U'.heap L ∧ FrameEnd U o U' L ({ frames := 0, cells := 0, slots := 0, locals := 0 } : Room).cells ({ frames := 0, cells := 0, slots := 0, locals := 0 } : Room).slots) := by
  refine MetFree.of_bodySF (plainFor_of_name pn_1) hisR ?_
  intro p e s m args below meth c s₁ Bd hml0 hP hK
  obtain ⟨rfl, hZ, hh⟩ := hP
  have hx := Bd.exec
  have hby := Bd.bytes
  have hml : c.maxLocals = 2 := hml0
  have hown : s.vm.findClass "com/example/faithful_courier/faithfulcourier/core/NameOfPinLaw" = some m.cls := findClass_of_methodNamed Bd.named
  have hnm := (name_of_methodNamed Bd.named Bd.method).1
  have X0 : Stand p l e ({ frames := 0, cells := 0, slots := 0, locals := 0 } : Room) s m #[(.int x)] below meth c s₁ [] 0 0 := Stand.of_body Bd
  have e0 : s₁.heap = h0 := by rw [← hh, Bd.state]; rfl
  have N0 := Fr.nil n0
  refine own_enter (ef_rmAl m x) ?_
  have hk := own_k x
  refine own_st (fun t_ k_ => XS.iloadN X0.here hx rfl (hb hby d1_0) rfl k_) ?_
  show own_Go p e below s₁ (mkF m 1 #[.val (.int x), .unset] [(.int x)]) _
  refine own_st (fun t_ k_ => X0.ldcInt hx hown (mvT hZ (hw _ (List.mem_of_getElem? (i := 4) rfl))) (g := (mkF m 1 #[.val (.int x), .unset] [(.int x)])) rfl (hb hby d1_1) _ k_) ?_
  show own_Go p e below s₁ (mkF m 3 #[.val (.int x), .unset] [(.int (2147483647 : Int32)), (.int x)]) _
  refine own_st (fun t_ k_ => XS.iand X0.here hx rfl (hb hby d1_3) rfl k_) ?_
  show own_Go p e below s₁ (mkF m 4 #[.val (.int x), .unset] [(.int (x &&& (2147483647 : Int32)))]) _
  refine own_st (fun t_ k_ => XS.bipush X0.here hx rfl (hb hby d1_4) k_) ?_
  show own_Go p e below s₁ (mkF m 6 #[.val (.int x), .unset] [(.int (65 : Int32)), (.int (x &&& (2147483647 : Int32)))]) _
  refine own_st (fun t_ k_ => Jvm.RoadKit.iremM X0 hx rfl (hb hby d1_6) rfl (by decide) k_) ?_
  show own_Go p e below s₁ (mkF m 7 #[.val (.int x), .unset] [(.int ((x &&& (2147483647 : Int32)) % (65 : Int32)))]) _
  generalize ((x &&& (2147483647 : Int32)) % (65 : Int32)) = k at hk ⊢
  show own_Go p e below s₁ (mkF m 7 #[.val (.int x), .unset] [(.int k)]) _
  have e_26 : (26 : Int32).toInt = 26 := rfl
  have e_52 : (52 : Int32).toInt = 52 := rfl
  have e_62 : (62 : Int32).toInt = 62 := rfl
  have e_63 : (63 : Int32).toInt = 63 := rfl
  have e_97 : (97 : Int32).toInt = 97 := rfl
  have e_65 : (65 : Int32).toInt = 65 := rfl
  have e_48 : (48 : Int32).toInt = 48 := rfl
  refine own_st (fun t_ k_ => XS.istoreN X0.here hx rfl (hb hby d1_7) rfl (l' := #[.val (.int x), .val (.int k)]) rfl k_) ?_
  show own_Go p e below s₁ (mkF m 8 #[.val (.int x), .val (.int k)] []) _
  refine own_st (fun t_ k_ => XS.iloadN X0.here hx rfl (hb hby d1_8) rfl k_) ?_
  show own_Go p e below s₁ (mkF m 9 #[.val (.int x), .val (.int k)] [(.int k)]) _
  refine own_st (fun t_ k_ => XS.bipush X0.here hx rfl (hb hby d1_9) k_) ?_
  show own_Go p e below s₁ (mkF m 11 #[.val (.int x), .val (.int k)] [(.int (26 : Int32)), (.int k)]) _
  by_cases c11 : k < (26 : Int32)
  · skip
    refine own_st (fun t_ k_ => XS.icmpNo X0.here hx rfl (hb hby d1_11) rfl (tlt c11).2.1 k_) ?_
    show own_Go p e below s₁ (mkF m 14 #[.val (.int x), .val (.int k)] []) _
    have u1 : k.toInt < 26 := by rw [Int32.lt_iff_toInt_lt] at c11; omega
    refine own_st (fun t_ k_ => XS.bipush X0.here hx rfl (hb hby d1_14) k_) ?_
    show own_Go p e below s₁ (mkF m 16 #[.val (.int x), .val (.int k)] [(.int (97 : Int32))]) _
    refine own_st (fun t_ k_ => XS.iloadN X0.here hx rfl (hb hby d1_16) rfl k_) ?_
    show own_Go p e below s₁ (mkF m 17 #[.val (.int x), .val (.int k)] [(.int k), (.int (97 : Int32))]) _
    refine own_st (fun t_ k_ => XS.iadd X0.here hx rfl (hb hby d1_17) rfl k_) ?_
    show own_Go p e below s₁ (mkF m 18 #[.val (.int x), .val (.int k)] [(.int ((97 : Int32) + k))]) _
    refine own_st (fun t_ k_ => XS.i2c X0.here hx rfl (hb hby d1_18) rfl k_) ?_
    show own_Go p e below s₁ (mkF m 19 #[.val (.int x), .val (.int k)] [(.int (((97 : Int32) + k).toUInt32.toUInt16.toUInt32.toInt32))]) _
    have s1 := c_iadd (97 : Int32) k
    have q1 := rng32 ((97 : Int32) + k)
    obtain ⟨fs, hr, hrun, hended, hW, hsame⟩ := X0.leave (v := some (.int (nar .char (((97 : Int32) + k).toUInt32.toUInt16.toUInt32.toInt32)))) (fun h => by rw [Bd.returns] at h; cases h)
    refine own_fin (retN X0 hx (t := .char) Bd.returns (by simp) (hb hby d1_19) hr) ⟨hrun, hended, _, _, rfl, ?_, ⟨_, rfl⟩, hW, hsame.mono (by decide) (by decide)⟩
    show Q_rmAl Z x h0 n0 _ s₁.heap _
    rw [e0]
    exact ⟨(nar .char (((97 : Int32) + k).toUInt32.toUInt16.toUInt32.toInt32)), rfl, N0, rfl, (own_alR (k := k) (b := ((97 : Int32) + k).toInt) (y := ((97 : Int32) + k)) rfl (by omega) (by omega) (by unfold own_al; omega))⟩
  · skip
    refine own_st (fun t_ k_ => XS.icmpYes X0.here hx rfl (pc0 := 11) (pc' := 20) rfl (hb hby d1_11) rfl (flt c11).2.1 (by decide) (by decide) k_) ?_
    show own_Go p e below s₁ (mkF m 20 #[.val (.int x), .val (.int k)] []) _
    have u1 : 26 ≤ k.toInt := by rw [Int32.lt_iff_toInt_lt] at c11; omega
    refine own_st (fun t_ k_ => XS.iloadN X0.here hx rfl (hb hby d1_20) rfl k_) ?_
    show own_Go p e below s₁ (mkF m 21 #[.val (.int x), .val (.int k)] [(.int k)]) _
    refine own_st (fun t_ k_ => XS.bipush X0.here hx rfl (hb hby d1_21) k_) ?_
    show own_Go p e below s₁ (mkF m 23 #[.val (.int x), .val (.int k)] [(.int (52 : Int32)), (.int k)]) _
    by_cases c23 : k < (52 : Int32)
    · skip
      refine own_st (fun t_ k_ => XS.icmpNo X0.here hx rfl (hb hby d1_23) rfl (tlt c23).2.1 k_) ?_
      show own_Go p e below s₁ (mkF m 26 #[.val (.int x), .val (.int k)] []) _
      have u2 : k.toInt < 52 := by rw [Int32.lt_iff_toInt_lt] at c23; omega
      refine own_st (fun t_ k_ => XS.bipush X0.here hx rfl (hb hby d1_26) k_) ?_
      show own_Go p e below s₁ (mkF m 28 #[.val (.int x), .val (.int k)] [(.int (65 : Int32))]) _
      refine own_st (fun t_ k_ => XS.iloadN X0.here hx rfl (hb hby d1_28) rfl k_) ?_
      show own_Go p e below s₁ (mkF m 29 #[.val (.int x), .val (.int k)] [(.int k), (.int (65 : Int32))]) _
      refine own_st (fun t_ k_ => XS.bipush X0.here hx rfl (hb hby d1_29) k_) ?_
      show own_Go p e below s₁ (mkF m 31 #[.val (.int x), .val (.int k)] [(.int (26 : Int32)), (.int k), (.int (65 : Int32))]) _
      refine own_st (fun t_ k_ => XS.isub X0.here hx rfl (hb hby d1_31) rfl k_) ?_
      show own_Go p e below s₁ (mkF m 32 #[.val (.int x), .val (.int k)] [(.int (k - (26 : Int32))), (.int (65 : Int32))]) _
      refine own_st (fun t_ k_ => XS.iadd X0.here hx rfl (hb hby d1_32) rfl k_) ?_
      show own_Go p e below s₁ (mkF m 33 #[.val (.int x), .val (.int k)] [(.int ((65 : Int32) + (k - (26 : Int32))))]) _
      refine own_st (fun t_ k_ => XS.i2c X0.here hx rfl (hb hby d1_33) rfl k_) ?_
      show own_Go p e below s₁ (mkF m 34 #[.val (.int x), .val (.int k)] [(.int (((65 : Int32) + (k - (26 : Int32))).toUInt32.toUInt16.toUInt32.toInt32))]) _
      have s0 := c_isub k (26 : Int32)
      have q0 := rng32 (k - (26 : Int32))
      have s1 := c_iadd (65 : Int32) (k - (26 : Int32))
      have q1 := rng32 ((65 : Int32) + (k - (26 : Int32)))
      obtain ⟨fs, hr, hrun, hended, hW, hsame⟩ := X0.leave (v := some (.int (nar .char (((65 : Int32) + (k - (26 : Int32))).toUInt32.toUInt16.toUInt32.toInt32)))) (fun h => by rw [Bd.returns] at h; cases h)
      refine own_fin (retN X0 hx (t := .char) Bd.returns (by simp) (hb hby d1_34) hr) ⟨hrun, hended, _, _, rfl, ?_, ⟨_, rfl⟩, hW, hsame.mono (by decide) (by decide)⟩
      show Q_rmAl Z x h0 n0 _ s₁.heap _
      rw [e0]
      exact ⟨(nar .char (((65 : Int32) + (k - (26 : Int32))).toUInt32.toUInt16.toUInt32.toInt32)), rfl, N0, rfl, (own_alR (k := k) (b := ((65 : Int32) + (k - (26 : Int32))).toInt) (y := ((65 : Int32) + (k - (26 : Int32)))) rfl (by omega) (by omega) (by unfold own_al; omega))⟩
    · skip
      refine own_st (fun t_ k_ => XS.icmpYes X0.here hx rfl (pc0 := 23) (pc' := 35) rfl (hb hby d1_23) rfl (flt c23).2.1 (by decide) (by decide) k_) ?_
      show own_Go p e below s₁ (mkF m 35 #[.val (.int x), .val (.int k)] []) _
      have u2 : 52 ≤ k.toInt := by rw [Int32.lt_iff_toInt_lt] at c23; omega
      refine own_st (fun t_ k_ => XS.iloadN X0.here hx rfl (hb hby d1_35) rfl k_) ?_
      show own_Go p e below s₁ (mkF m 36 #[.val (.int x), .val (.int k)] [(.int k)]) _
      refine own_st (fun t_ k_ => XS.bipush X0.here hx rfl (hb hby d1_36) k_) ?_
      show own_Go p e below s₁ (mkF m 38 #[.val (.int x), .val (.int k)] [(.int (62 : Int32)), (.int k)]) _
      by_cases c38 : k < (62 : Int32)
      · skip
        refine own_st (fun t_ k_ => XS.icmpNo X0.here hx rfl (hb hby d1_38) rfl (tlt c38).2.1 k_) ?_
        show own_Go p e below s₁ (mkF m 41 #[.val (.int x), .val (.int k)] []) _
        have u3 : k.toInt < 62 := by rw [Int32.lt_iff_toInt_lt] at c38; omega
        refine own_st (fun t_ k_ => XS.bipush X0.here hx rfl (hb hby d1_41) k_) ?_
        show own_Go p e below s₁ (mkF m 43 #[.val (.int x), .val (.int k)] [(.int (48 : Int32))]) _
        refine own_st (fun t_ k_ => XS.iloadN X0.here hx rfl (hb hby d1_43) rfl k_) ?_
        show own_Go p e below s₁ (mkF m 44 #[.val (.int x), .val (.int k)] [(.int k), (.int (48 : Int32))]) _
        refine own_st (fun t_ k_ => XS.bipush X0.here hx rfl (hb hby d1_44) k_) ?_
        show own_Go p e below s₁ (mkF m 46 #[.val (.int x), .val (.int k)] [(.int (52 : Int32)), (.int k), (.int (48 : Int32))]) _
        refine own_st (fun t_ k_ => XS.isub X0.here hx rfl (hb hby d1_46) rfl k_) ?_
        show own_Go p e below s₁ (mkF m 47 #[.val (.int x), .val (.int k)] [(.int (k - (52 : Int32))), (.int (48 : Int32))]) _
        refine own_st (fun t_ k_ => XS.iadd X0.here hx rfl (hb hby d1_47) rfl k_) ?_
        show own_Go p e below s₁ (mkF m 48 #[.val (.int x), .val (.int k)] [(.int ((48 : Int32) + (k - (52 : Int32))))]) _
        refine own_st (fun t_ k_ => XS.i2c X0.here hx rfl (hb hby d1_48) rfl k_) ?_
        show own_Go p e below s₁ (mkF m 49 #[.val (.int x), .val (.int k)] [(.int (((48 : Int32) + (k - (52 : Int32))).toUInt32.toUInt16.toUInt32.toInt32))]) _
        have s0 := c_isub k (52 : Int32)
        have q0 := rng32 (k - (52 : Int32))
        have s1 := c_iadd (48 : Int32) (k - (52 : Int32))
        have q1 := rng32 ((48 : Int32) + (k - (52 : Int32)))
        obtain ⟨fs, hr, hrun, hended, hW, hsame⟩ := X0.leave (v := some (.int (nar .char (((48 : Int32) + (k - (52 : Int32))).toUInt32.toUInt16.toUInt32.toInt32)))) (fun h => by rw [Bd.returns] at h; cases h)
        refine own_fin (retN X0 hx (t := .char) Bd.returns (by simp) (hb hby d1_49) hr) ⟨hrun, hended, _, _, rfl, ?_, ⟨_, rfl⟩, hW, hsame.mono (by decide) (by decide)⟩
        show Q_rmAl Z x h0 n0 _ s₁.heap _
        rw [e0]
        exact ⟨(nar .char (((48 : Int32) + (k - (52 : Int32))).toUInt32.toUInt16.toUInt32.toInt32)), rfl, N0, rfl, (own_alR (k := k) (b := ((48 : Int32) + (k - (52 : Int32))).toInt) (y := ((48 : Int32) + (k - (52 : Int32)))) rfl (by omega) (by omega) (by unfold own_al; omega))⟩
      · skip
        refine own_st (fun t_ k_ => XS.icmpYes X0.here hx rfl (pc0 := 38) (pc' := 50) rfl (hb hby d1_38) rfl (flt c38).2.1 (by decide) (by decide) k_) ?_
        show own_Go p e below s₁ (mkF m 50 #[.val (.int x), .val (.int k)] []) _
        refine own_st (fun t_ k_ => XS.iloadN X0.here hx rfl (hb hby d1_50) rfl k_) ?_
        show own_Go p e below s₁ (mkF m 51 #[.val (.int x), .val (.int k)] [(.int k)]) _
        refine own_st (fun t_ k_ => XS.bipush X0.here hx rfl (hb hby d1_51) k_) ?_
        show own_Go p e below s₁ (mkF m 53 #[.val (.int x), .val (.int k)] [(.int (62 : Int32)), (.int k)]) _
        by_cases c53 : k = (62 : Int32)
        · skip
          refine own_st (fun t_ k_ => XS.icmpNo X0.here hx rfl (hb hby d1_53) rfl (teq c53).2 k_) ?_
          show own_Go p e below s₁ (mkF m 56 #[.val (.int x), .val (.int k)] []) _
          refine own_st (fun t_ k_ => XS.bipush X0.here hx rfl (hb hby d1_56) k_) ?_
          show own_Go p e below s₁ (mkF m 58 #[.val (.int x), .val (.int k)] [(.int (45 : Int32))]) _
          obtain ⟨fs, hr, hrun, hended, hW, hsame⟩ := X0.leave (v := some (.int (nar .char (45 : Int32)))) (fun h => by rw [Bd.returns] at h; cases h)
          refine own_fin (retN X0 hx (t := .char) Bd.returns (by simp) (hb hby d1_58) hr) ⟨hrun, hended, _, _, rfl, ?_, ⟨_, rfl⟩, hW, hsame.mono (by decide) (by decide)⟩
          show Q_rmAl Z x h0 n0 _ s₁.heap _
          rw [e0]
          exact ⟨(nar .char (45 : Int32)), rfl, N0, rfl, (Or.inr (Or.inr (Or.inr (Or.inl rfl))))⟩
        · skip
          refine own_st (fun t_ k_ => XS.icmpYes X0.here hx rfl (pc0 := 53) (pc' := 59) rfl (hb hby d1_53) rfl (feq c53).2 (by decide) (by decide) k_) ?_
          show own_Go p e below s₁ (mkF m 59 #[.val (.int x), .val (.int k)] []) _
          refine own_st (fun t_ k_ => XS.iloadN X0.here hx rfl (hb hby d1_59) rfl k_) ?_
          show own_Go p e below s₁ (mkF m 60 #[.val (.int x), .val (.int k)] [(.int k)]) _
          refine own_st (fun t_ k_ => XS.bipush X0.here hx rfl (hb hby d1_60) k_) ?_
          show own_Go p e below s₁ (mkF m 62 #[.val (.int x), .val (.int k)] [(.int (63 : Int32)), (.int k)]) _
          by_cases c62 : k = (63 : Int32)
          · skip
            refine own_st (fun t_ k_ => XS.icmpNo X0.here hx rfl (hb hby d1_62) rfl (teq c62).2 k_) ?_
            show own_Go p e below s₁ (mkF m 65 #[.val (.int x), .val (.int k)] []) _
            refine own_st (fun t_ k_ => XS.bipush X0.here hx rfl (hb hby d1_65) k_) ?_
            show own_Go p e below s₁ (mkF m 67 #[.val (.int x), .val (.int k)] [(.int (95 : Int32))]) _
            obtain ⟨fs, hr, hrun, hended, hW, hsame⟩ := X0.leave (v := some (.int (nar .char (95 : Int32)))) (fun h => by rw [Bd.returns] at h; cases h)
            refine own_fin (retN X0 hx (t := .char) Bd.returns (by simp) (hb hby d1_67) hr) ⟨hrun, hended, _, _, rfl, ?_, ⟨_, rfl⟩, hW, hsame.mono (by decide) (by decide)⟩
            show Q_rmAl Z x h0 n0 _ s₁.heap _
            rw [e0]
            exact ⟨(nar .char (95 : Int32)), rfl, N0, rfl, (Or.inr (Or.inr (Or.inr (Or.inr (Or.inl rfl)))))⟩
          · skip
            refine own_st (fun t_ k_ => XS.icmpYes X0.here hx rfl (pc0 := 62) (pc' := 68) rfl (hb hby d1_62) rfl (feq c62).2 (by decide) (by decide) k_) ?_
            show own_Go p e below s₁ (mkF m 68 #[.val (.int x), .val (.int k)] []) _
            refine own_st (fun t_ k_ => XS.bipush X0.here hx rfl (hb hby d1_68) k_) ?_
            show own_Go p e below s₁ (mkF m 70 #[.val (.int x), .val (.int k)] [(.int (46 : Int32))]) _
            obtain ⟨fs, hr, hrun, hended, hW, hsame⟩ := X0.leave (v := some (.int (nar .char (46 : Int32)))) (fun h => by rw [Bd.returns] at h; cases h)
            refine own_fin (retN X0 hx (t := .char) Bd.returns (by simp) (hb hby d1_70) hr) ⟨hrun, hended, _, _, rfl, ?_, ⟨_, rfl⟩, hW, hsame.mono (by decide) (by decide)⟩
            show Q_rmAl Z x h0 n0 _ s₁.heap _
            rw [e0]
            exact ⟨(nar .char (46 : Int32)), rfl, N0, rfl, (Or.inr (Or.inr (Or.inr (Or.inr (Or.inr rfl)))))⟩
theorem d21_0 : decode prog_2_method_3_code 0 = .ok (.iload_n 0, 1) := by decide +kernel
theorem d21_1 : decode prog_2_method_3_code 1 = .ok (.bipush 97, 2) := by decide +kernel
theorem d21_3 : decode prog_2_method_3_code 3 = .ok (.if_icmp .lt 9, 3) := by decide +kernel
theorem d21_6 : decode prog_2_method_3_code 6 = .ok (.iload_n 0, 1) := by decide +kernel
theorem d21_7 : decode prog_2_method_3_code 7 = .ok (.bipush 122, 2) := by decide +kernel
theorem d21_9 : decode prog_2_method_3_code 9 = .ok (.if_icmp .le 45, 3) := by decide +kernel
theorem d21_12 : decode prog_2_method_3_code 12 = .ok (.iload_n 0, 1) := by decide +kernel
theorem d21_13 : decode prog_2_method_3_code 13 = .ok (.bipush 65, 2) := by decide +kernel
theorem d21_15 : decode prog_2_method_3_code 15 = .ok (.if_icmp .lt 9, 3) := by decide +kernel
theorem d21_18 : decode prog_2_method_3_code 18 = .ok (.iload_n 0, 1) := by decide +kernel
theorem d21_19 : decode prog_2_method_3_code 19 = .ok (.bipush 90, 2) := by decide +kernel
theorem d21_21 : decode prog_2_method_3_code 21 = .ok (.if_icmp .le 33, 3) := by decide +kernel
theorem d21_24 : decode prog_2_method_3_code 24 = .ok (.iload_n 0, 1) := by decide +kernel
theorem d21_25 : decode prog_2_method_3_code 25 = .ok (.bipush 48, 2) := by decide +kernel
theorem d21_27 : decode prog_2_method_3_code 27 = .ok (.if_icmp .lt 9, 3) := by decide +kernel
theorem d21_30 : decode prog_2_method_3_code 30 = .ok (.iload_n 0, 1) := by decide +kernel
theorem d21_31 : decode prog_2_method_3_code 31 = .ok (.bipush 57, 2) := by decide +kernel
theorem d21_33 : decode prog_2_method_3_code 33 = .ok (.if_icmp .le 21, 3) := by decide +kernel
theorem d21_36 : decode prog_2_method_3_code 36 = .ok (.iload_n 0, 1) := by decide +kernel
theorem d21_37 : decode prog_2_method_3_code 37 = .ok (.bipush 45, 2) := by decide +kernel
theorem d21_39 : decode prog_2_method_3_code 39 = .ok (.if_icmp .eq 15, 3) := by decide +kernel
theorem d21_42 : decode prog_2_method_3_code 42 = .ok (.iload_n 0, 1) := by decide +kernel
theorem d21_43 : decode prog_2_method_3_code 43 = .ok (.bipush 95, 2) := by decide +kernel
theorem d21_45 : decode prog_2_method_3_code 45 = .ok (.if_icmp .eq 9, 3) := by decide +kernel
theorem d21_48 : decode prog_2_method_3_code 48 = .ok (.iload_n 0, 1) := by decide +kernel
theorem d21_49 : decode prog_2_method_3_code 49 = .ok (.bipush 46, 2) := by decide +kernel
theorem d21_51 : decode prog_2_method_3_code 51 = .ok (.if_icmp .ne 7, 3) := by decide +kernel
theorem d21_54 : decode prog_2_method_3_code 54 = .ok (.iconst 1, 1) := by decide +kernel
theorem d21_55 : decode prog_2_method_3_code 55 = .ok (.goto 4, 3) := by decide +kernel
theorem d21_58 : decode prog_2_method_3_code 58 = .ok (.iconst 0, 1) := by decide +kernel
theorem d21_59 : decode prog_2_method_3_code 59 = .ok (.ireturn, 1) := by decide +kernel
theorem pn_21 : plainName "com/example/faithful_courier/faithfulcourier/core/Name" = true := by first | (simp [plainName, overriddenIn]; done) | decide +kernel
theorem ef_rmIa (m : MethodId) (x0 : Int32) : entryFrame m #[(.int x0)] 1 = mkF m 0 #[.val (.int x0)] [] := by first | (simp [entryFrame, mkF, argsToLocals, Value.category]; done) | rfl
def Q_rmIa (Z : State) (c0 : Int32) (h0 : Heap) (n0 : Nat) (v : Option Value) (h : Heap) (L : List Loc) : Prop := v = some (.int (1 : Int32)) ∧ Fr n0 L ∧ h = h0
set_option maxRecDepth 65536 in
set_option maxHeartbeats 40000000 in
theorem rmIa (l : Launch) (Z : State) (a0 : Array Value) (hw : ∀ d ∈ tables_1, d.before a0 Z = true) (ws : List Jvm.Cond) (c0 : Int32) (h0 : Heap) (n0 : Nat) (Z0 : n0 ≤ h0.size) (hal : (own_al c0)) :
    MetFree l (⟨"com/example/faithful_courier/faithfulcourier/core/Name", "isAllowed", "(C)Z"⟩ : MethodName) (head1 (Jvm.Cond.code (⟨"com/example/faithful_courier/faithfulcourier/core/Name", "isAllowed", "(C)Z"⟩ : MethodName) prog_2_method_3_code 1 (some .boolean) :: ws) ({ frames := 0, cells := 0, slots := 0, locals := 0 } : Room)) (fun a U => a = #[(.int c0)] ∧ Z.Warmed39 U.vm ∧ U.heap = h0) (fun _ _ _ _ _ => True) (fun _ U o U' => ∃ v L, o = .returned v ∧ Q_rmIa Z c0 h0 n0 v U'.heap L ∧ FrameEnd U o U' L ({ frames := 0, cells := 0, slots := 0, locals := 0 } : Room).cells ({ frames := 0, cells := 0, slots := 0, locals := 0 } : Room).slots) := by
  refine MetFree.of_bodySF (plainFor_of_name pn_21) hisR ?_
  intro p e s m args below meth c s₁ Bd hml0 hP hK
  obtain ⟨rfl, hZ, hh⟩ := hP
  have hx := Bd.exec
  have hby := Bd.bytes
  have hml : c.maxLocals = 1 := hml0
  have hown : s.vm.findClass "com/example/faithful_courier/faithfulcourier/core/Name" = some m.cls := findClass_of_methodNamed Bd.named
  have hnm := (name_of_methodNamed Bd.named Bd.method).1
  have X0 : Stand p l e ({ frames := 0, cells := 0, slots := 0, locals := 0 } : Room) s m #[(.int c0)] below meth c s₁ [] 0 0 := Stand.of_body Bd
  have e0 : s₁.heap = h0 := by rw [← hh, Bd.state]; rfl
  have N0 := Fr.nil n0
  refine own_enter (ef_rmIa m c0) ?_
  have e_97 : (97 : Int32).toInt = 97 := rfl
  have e_122 : (122 : Int32).toInt = 122 := rfl
  have e_65 : (65 : Int32).toInt = 65 := rfl
  have e_90 : (90 : Int32).toInt = 90 := rfl
  have e_48 : (48 : Int32).toInt = 48 := rfl
  have e_57 : (57 : Int32).toInt = 57 := rfl
  have e_45 : (45 : Int32).toInt = 45 := rfl
  have e_95 : (95 : Int32).toInt = 95 := rfl
  have e_46 : (46 : Int32).toInt = 46 := rfl
  refine own_st (fun t_ k_ => XS.iloadN X0.here hx rfl (hb hby d21_0) rfl k_) ?_
  show own_Go p e below s₁ (mkF m 1 #[.val (.int c0)] [(.int c0)]) _
  refine own_st (fun t_ k_ => XS.bipush X0.here hx rfl (hb hby d21_1) k_) ?_
  show own_Go p e below s₁ (mkF m 3 #[.val (.int c0)] [(.int (97 : Int32)), (.int c0)]) _
  by_cases c3 : c0 < (97 : Int32)
  · skip
    refine own_st (fun t_ k_ => XS.icmpYes X0.here hx rfl (pc0 := 3) (pc' := 12) rfl (hb hby d21_3) rfl (tlt c3).1 (by decide) (by decide) k_) ?_
    show own_Go p e below s₁ (mkF m 12 #[.val (.int c0)] []) _
    have i3 := c3
    rw [Int32.lt_iff_toInt_lt] at i3
    refine own_st (fun t_ k_ => XS.iloadN X0.here hx rfl (hb hby d21_12) rfl k_) ?_
    show own_Go p e below s₁ (mkF m 13 #[.val (.int c0)] [(.int c0)]) _
    refine own_st (fun t_ k_ => XS.bipush X0.here hx rfl (hb hby d21_13) k_) ?_
    show own_Go p e below s₁ (mkF m 15 #[.val (.int c0)] [(.int (65 : Int32)), (.int c0)]) _
    by_cases c15 : c0 < (65 : Int32)
    · skip
      refine own_st (fun t_ k_ => XS.icmpYes X0.here hx rfl (pc0 := 15) (pc' := 24) rfl (hb hby d21_15) rfl (tlt c15).1 (by decide) (by decide) k_) ?_
      show own_Go p e below s₁ (mkF m 24 #[.val (.int c0)] []) _
      have i15 := c15
      rw [Int32.lt_iff_toInt_lt] at i15
      refine own_st (fun t_ k_ => XS.iloadN X0.here hx rfl (hb hby d21_24) rfl k_) ?_
      show own_Go p e below s₁ (mkF m 25 #[.val (.int c0)] [(.int c0)]) _
      refine own_st (fun t_ k_ => XS.bipush X0.here hx rfl (hb hby d21_25) k_) ?_
      show own_Go p e below s₁ (mkF m 27 #[.val (.int c0)] [(.int (48 : Int32)), (.int c0)]) _
      by_cases c27 : c0 < (48 : Int32)
      · skip
        refine own_st (fun t_ k_ => XS.icmpYes X0.here hx rfl (pc0 := 27) (pc' := 36) rfl (hb hby d21_27) rfl (tlt c27).1 (by decide) (by decide) k_) ?_
        show own_Go p e below s₁ (mkF m 36 #[.val (.int c0)] []) _
        have i27 := c27
        rw [Int32.lt_iff_toInt_lt] at i27
        refine own_st (fun t_ k_ => XS.iloadN X0.here hx rfl (hb hby d21_36) rfl k_) ?_
        show own_Go p e below s₁ (mkF m 37 #[.val (.int c0)] [(.int c0)]) _
        refine own_st (fun t_ k_ => XS.bipush X0.here hx rfl (hb hby d21_37) k_) ?_
        show own_Go p e below s₁ (mkF m 39 #[.val (.int c0)] [(.int (45 : Int32)), (.int c0)]) _
        by_cases c39 : c0 = (45 : Int32)
        · skip
          refine own_st (fun t_ k_ => XS.icmpYes X0.here hx rfl (pc0 := 39) (pc' := 54) rfl (hb hby d21_39) rfl (teq c39).1 (by decide) (by decide) k_) ?_
          show own_Go p e below s₁ (mkF m 54 #[.val (.int c0)] []) _
          have i39 : c0.toInt = 45 := by rw [c39]; rfl
          refine own_st (fun t_ k_ => XS.iconst X0.here hx rfl (hb hby d21_54) k_) ?_
          show own_Go p e below s₁ (mkF m 55 #[.val (.int c0)] [(.int (1 : Int32))]) _
          refine own_st (fun t_ k_ => XS.goto X0.here hx rfl (pc0 := 55) (pc' := 59) rfl (hb hby d21_55) (by decide) (by decide) k_) ?_
          show own_Go p e below s₁ (mkF m 59 #[.val (.int c0)] [(.int (1 : Int32))]) _
          obtain ⟨fs, hr, hrun, hended, hW, hsame⟩ := X0.leave (v := some (.int (1 : Int32))) (fun h => by rw [Bd.returns] at h; cases h)
          refine own_fin (retN X0 hx (t := .boolean) Bd.returns (by simp) (hb hby d21_59) hr) ⟨hrun, hended, _, _, rfl, ?_, ⟨_, rfl⟩, hW, hsame.mono (by decide) (by decide)⟩
          show Q_rmIa Z c0 h0 n0 _ s₁.heap _
          rw [e0]
          exact ⟨rfl, N0, rfl⟩
        · skip
          refine own_st (fun t_ k_ => XS.icmpNo X0.here hx rfl (hb hby d21_39) rfl (feq c39).1 k_) ?_
          show own_Go p e below s₁ (mkF m 42 #[.val (.int c0)] []) _
          have i39 : ¬ c0.toInt = 45 := fun q => c39 (Int32.toInt_inj.mp q)
          refine own_st (fun t_ k_ => XS.iloadN X0.here hx rfl (hb hby d21_42) rfl k_) ?_
          show own_Go p e below s₁ (mkF m 43 #[.val (.int c0)] [(.int c0)]) _
          refine own_st (fun t_ k_ => XS.bipush X0.here hx rfl (hb hby d21_43) k_) ?_
          show own_Go p e below s₁ (mkF m 45 #[.val (.int c0)] [(.int (95 : Int32)), (.int c0)]) _
          by_cases c45 : c0 = (95 : Int32)
          · skip
            refine own_st (fun t_ k_ => XS.icmpYes X0.here hx rfl (pc0 := 45) (pc' := 54) rfl (hb hby d21_45) rfl (teq c45).1 (by decide) (by decide) k_) ?_
            show own_Go p e below s₁ (mkF m 54 #[.val (.int c0)] []) _
            have i45 : c0.toInt = 95 := by rw [c45]; rfl
            refine own_st (fun t_ k_ => XS.iconst X0.here hx rfl (hb hby d21_54) k_) ?_
            show own_Go p e below s₁ (mkF m 55 #[.val (.int c0)] [(.int (1 : Int32))]) _
            refine own_st (fun t_ k_ => XS.goto X0.here hx rfl (pc0 := 55) (pc' := 59) rfl (hb hby d21_55) (by decide) (by decide) k_) ?_
            show own_Go p e below s₁ (mkF m 59 #[.val (.int c0)] [(.int (1 : Int32))]) _
            obtain ⟨fs, hr, hrun, hended, hW, hsame⟩ := X0.leave (v := some (.int (1 : Int32))) (fun h => by rw [Bd.returns] at h; cases h)
            refine own_fin (retN X0 hx (t := .boolean) Bd.returns (by simp) (hb hby d21_59) hr) ⟨hrun, hended, _, _, rfl, ?_, ⟨_, rfl⟩, hW, hsame.mono (by decide) (by decide)⟩
            show Q_rmIa Z c0 h0 n0 _ s₁.heap _
            rw [e0]
            exact ⟨rfl, N0, rfl⟩
          · skip
            refine own_st (fun t_ k_ => XS.icmpNo X0.here hx rfl (hb hby d21_45) rfl (feq c45).1 k_) ?_
            show own_Go p e below s₁ (mkF m 48 #[.val (.int c0)] []) _
            have i45 : ¬ c0.toInt = 95 := fun q => c45 (Int32.toInt_inj.mp q)
            refine own_st (fun t_ k_ => XS.iloadN X0.here hx rfl (hb hby d21_48) rfl k_) ?_
            show own_Go p e below s₁ (mkF m 49 #[.val (.int c0)] [(.int c0)]) _
            refine own_st (fun t_ k_ => XS.bipush X0.here hx rfl (hb hby d21_49) k_) ?_
            show own_Go p e below s₁ (mkF m 51 #[.val (.int c0)] [(.int (46 : Int32)), (.int c0)]) _
            by_cases c51 : c0 = (46 : Int32)
            · skip
              refine own_st (fun t_ k_ => XS.icmpNo X0.here hx rfl (hb hby d21_51) rfl (teq c51).2 k_) ?_
              show own_Go p e below s₁ (mkF m 54 #[.val (.int c0)] []) _
              have i51 : c0.toInt = 46 := by rw [c51]; rfl
              refine own_st (fun t_ k_ => XS.iconst X0.here hx rfl (hb hby d21_54) k_) ?_
              show own_Go p e below s₁ (mkF m 55 #[.val (.int c0)] [(.int (1 : Int32))]) _
              refine own_st (fun t_ k_ => XS.goto X0.here hx rfl (pc0 := 55) (pc' := 59) rfl (hb hby d21_55) (by decide) (by decide) k_) ?_
              show own_Go p e below s₁ (mkF m 59 #[.val (.int c0)] [(.int (1 : Int32))]) _
              obtain ⟨fs, hr, hrun, hended, hW, hsame⟩ := X0.leave (v := some (.int (1 : Int32))) (fun h => by rw [Bd.returns] at h; cases h)
              refine own_fin (retN X0 hx (t := .boolean) Bd.returns (by simp) (hb hby d21_59) hr) ⟨hrun, hended, _, _, rfl, ?_, ⟨_, rfl⟩, hW, hsame.mono (by decide) (by decide)⟩
              show Q_rmIa Z c0 h0 n0 _ s₁.heap _
              rw [e0]
              exact ⟨rfl, N0, rfl⟩
            · skip
              refine own_st (fun t_ k_ => XS.icmpYes X0.here hx rfl (pc0 := 51) (pc' := 58) rfl (hb hby d21_51) rfl (feq c51).2 (by decide) (by decide) k_) ?_
              show own_Go p e below s₁ (mkF m 58 #[.val (.int c0)] []) _
              have i51 : ¬ c0.toInt = 46 := fun q => c51 (Int32.toInt_inj.mp q)
              refine own_st (fun t_ k_ => XS.iconst X0.here hx rfl (hb hby d21_58) k_) ?_
              show own_Go p e below s₁ (mkF m 59 #[.val (.int c0)] [(.int (0 : Int32))]) _
              exfalso
              unfold own_al at hal
              omega
      · skip
        refine own_st (fun t_ k_ => XS.icmpNo X0.here hx rfl (hb hby d21_27) rfl (flt c27).1 k_) ?_
        show own_Go p e below s₁ (mkF m 30 #[.val (.int c0)] []) _
        have i27 := c27
        rw [Int32.lt_iff_toInt_lt] at i27
        refine own_st (fun t_ k_ => XS.iloadN X0.here hx rfl (hb hby d21_30) rfl k_) ?_
        show own_Go p e below s₁ (mkF m 31 #[.val (.int c0)] [(.int c0)]) _
        refine own_st (fun t_ k_ => XS.bipush X0.here hx rfl (hb hby d21_31) k_) ?_
        show own_Go p e below s₁ (mkF m 33 #[.val (.int c0)] [(.int (57 : Int32)), (.int c0)]) _
        by_cases c33 : (57 : Int32) < c0
        · skip
          refine own_st (fun t_ k_ => XS.icmpNo X0.here hx rfl (hb hby d21_33) rfl (tlt c33).2.2.2 k_) ?_
          show own_Go p e below s₁ (mkF m 36 #[.val (.int c0)] []) _
          have i33 := c33
          rw [Int32.lt_iff_toInt_lt] at i33
          refine own_st (fun t_ k_ => XS.iloadN X0.here hx rfl (hb hby d21_36) rfl k_) ?_
          show own_Go p e below s₁ (mkF m 37 #[.val (.int c0)] [(.int c0)]) _
          refine own_st (fun t_ k_ => XS.bipush X0.here hx rfl (hb hby d21_37) k_) ?_
          show own_Go p e below s₁ (mkF m 39 #[.val (.int c0)] [(.int (45 : Int32)), (.int c0)]) _
          by_cases c39 : c0 = (45 : Int32)
          · skip
            refine own_st (fun t_ k_ => XS.icmpYes X0.here hx rfl (pc0 := 39) (pc' := 54) rfl (hb hby d21_39) rfl (teq c39).1 (by decide) (by decide) k_) ?_
            show own_Go p e below s₁ (mkF m 54 #[.val (.int c0)] []) _
            have i39 : c0.toInt = 45 := by rw [c39]; rfl
            refine own_st (fun t_ k_ => XS.iconst X0.here hx rfl (hb hby d21_54) k_) ?_
            show own_Go p e below s₁ (mkF m 55 #[.val (.int c0)] [(.int (1 : Int32))]) _
            refine own_st (fun t_ k_ => XS.goto X0.here hx rfl (pc0 := 55) (pc' := 59) rfl (hb hby d21_55) (by decide) (by decide) k_) ?_
            show own_Go p e below s₁ (mkF m 59 #[.val (.int c0)] [(.int (1 : Int32))]) _
            obtain ⟨fs, hr, hrun, hended, hW, hsame⟩ := X0.leave (v := some (.int (1 : Int32))) (fun h => by rw [Bd.returns] at h; cases h)
            refine own_fin (retN X0 hx (t := .boolean) Bd.returns (by simp) (hb hby d21_59) hr) ⟨hrun, hended, _, _, rfl, ?_, ⟨_, rfl⟩, hW, hsame.mono (by decide) (by decide)⟩
            show Q_rmIa Z c0 h0 n0 _ s₁.heap _
            rw [e0]
            exact ⟨rfl, N0, rfl⟩
          · skip
            refine own_st (fun t_ k_ => XS.icmpNo X0.here hx rfl (hb hby d21_39) rfl (feq c39).1 k_) ?_
            show own_Go p e below s₁ (mkF m 42 #[.val (.int c0)] []) _
            have i39 : ¬ c0.toInt = 45 := fun q => c39 (Int32.toInt_inj.mp q)
            refine own_st (fun t_ k_ => XS.iloadN X0.here hx rfl (hb hby d21_42) rfl k_) ?_
            show own_Go p e below s₁ (mkF m 43 #[.val (.int c0)] [(.int c0)]) _
            refine own_st (fun t_ k_ => XS.bipush X0.here hx rfl (hb hby d21_43) k_) ?_
            show own_Go p e below s₁ (mkF m 45 #[.val (.int c0)] [(.int (95 : Int32)), (.int c0)]) _
            by_cases c45 : c0 = (95 : Int32)
            · skip
              refine own_st (fun t_ k_ => XS.icmpYes X0.here hx rfl (pc0 := 45) (pc' := 54) rfl (hb hby d21_45) rfl (teq c45).1 (by decide) (by decide) k_) ?_
              show own_Go p e below s₁ (mkF m 54 #[.val (.int c0)] []) _
              have i45 : c0.toInt = 95 := by rw [c45]; rfl
              refine own_st (fun t_ k_ => XS.iconst X0.here hx rfl (hb hby d21_54) k_) ?_
              show own_Go p e below s₁ (mkF m 55 #[.val (.int c0)] [(.int (1 : Int32))]) _
              refine own_st (fun t_ k_ => XS.goto X0.here hx rfl (pc0 := 55) (pc' := 59) rfl (hb hby d21_55) (by decide) (by decide) k_) ?_
              show own_Go p e below s₁ (mkF m 59 #[.val (.int c0)] [(.int (1 : Int32))]) _
              obtain ⟨fs, hr, hrun, hended, hW, hsame⟩ := X0.leave (v := some (.int (1 : Int32))) (fun h => by rw [Bd.returns] at h; cases h)
              refine own_fin (retN X0 hx (t := .boolean) Bd.returns (by simp) (hb hby d21_59) hr) ⟨hrun, hended, _, _, rfl, ?_, ⟨_, rfl⟩, hW, hsame.mono (by decide) (by decide)⟩
              show Q_rmIa Z c0 h0 n0 _ s₁.heap _
              rw [e0]
              exact ⟨rfl, N0, rfl⟩
            · skip
              refine own_st (fun t_ k_ => XS.icmpNo X0.here hx rfl (hb hby d21_45) rfl (feq c45).1 k_) ?_
              show own_Go p e below s₁ (mkF m 48 #[.val (.int c0)] []) _
              have i45 : ¬ c0.toInt = 95 := fun q => c45 (Int32.toInt_inj.mp q)
              refine own_st (fun t_ k_ => XS.iloadN X0.here hx rfl (hb hby d21_48) rfl k_) ?_
              show own_Go p e below s₁ (mkF m 49 #[.val (.int c0)] [(.int c0)]) _
              refine own_st (fun t_ k_ => XS.bipush X0.here hx rfl (hb hby d21_49) k_) ?_
              show own_Go p e below s₁ (mkF m 51 #[.val (.int c0)] [(.int (46 : Int32)), (.int c0)]) _
              by_cases c51 : c0 = (46 : Int32)
              · skip
                refine own_st (fun t_ k_ => XS.icmpNo X0.here hx rfl (hb hby d21_51) rfl (teq c51).2 k_) ?_
                show own_Go p e below s₁ (mkF m 54 #[.val (.int c0)] []) _
                have i51 : c0.toInt = 46 := by rw [c51]; rfl
                refine own_st (fun t_ k_ => XS.iconst X0.here hx rfl (hb hby d21_54) k_) ?_
                show own_Go p e below s₁ (mkF m 55 #[.val (.int c0)] [(.int (1 : Int32))]) _
                refine own_st (fun t_ k_ => XS.goto X0.here hx rfl (pc0 := 55) (pc' := 59) rfl (hb hby d21_55) (by decide) (by decide) k_) ?_
                show own_Go p e below s₁ (mkF m 59 #[.val (.int c0)] [(.int (1 : Int32))]) _
                obtain ⟨fs, hr, hrun, hended, hW, hsame⟩ := X0.leave (v := some (.int (1 : Int32))) (fun h => by rw [Bd.returns] at h; cases h)
                refine own_fin (retN X0 hx (t := .boolean) Bd.returns (by simp) (hb hby d21_59) hr) ⟨hrun, hended, _, _, rfl, ?_, ⟨_, rfl⟩, hW, hsame.mono (by decide) (by decide)⟩
                show Q_rmIa Z c0 h0 n0 _ s₁.heap _
                rw [e0]
                exact ⟨rfl, N0, rfl⟩
              · skip
                refine own_st (fun t_ k_ => XS.icmpYes X0.here hx rfl (pc0 := 51) (pc' := 58) rfl (hb hby d21_51) rfl (feq c51).2 (by decide) (by decide) k_) ?_
                show own_Go p e below s₁ (mkF m 58 #[.val (.int c0)] []) _
                have i51 : ¬ c0.toInt = 46 := fun q => c51 (Int32.toInt_inj.mp q)
                refine own_st (fun t_ k_ => XS.iconst X0.here hx rfl (hb hby d21_58) k_) ?_
                show own_Go p e below s₁ (mkF m 59 #[.val (.int c0)] [(.int (0 : Int32))]) _
                exfalso
                unfold own_al at hal
                omega
        · skip
          refine own_st (fun t_ k_ => XS.icmpYes X0.here hx rfl (pc0 := 33) (pc' := 54) rfl (hb hby d21_33) rfl (flt c33).2.2.2 (by decide) (by decide) k_) ?_
          show own_Go p e below s₁ (mkF m 54 #[.val (.int c0)] []) _
          have i33 := c33
          rw [Int32.lt_iff_toInt_lt] at i33
          refine own_st (fun t_ k_ => XS.iconst X0.here hx rfl (hb hby d21_54) k_) ?_
          show own_Go p e below s₁ (mkF m 55 #[.val (.int c0)] [(.int (1 : Int32))]) _
          refine own_st (fun t_ k_ => XS.goto X0.here hx rfl (pc0 := 55) (pc' := 59) rfl (hb hby d21_55) (by decide) (by decide) k_) ?_
          show own_Go p e below s₁ (mkF m 59 #[.val (.int c0)] [(.int (1 : Int32))]) _
          obtain ⟨fs, hr, hrun, hended, hW, hsame⟩ := X0.leave (v := some (.int (1 : Int32))) (fun h => by rw [Bd.returns] at h; cases h)
          refine own_fin (retN X0 hx (t := .boolean) Bd.returns (by simp) (hb hby d21_59) hr) ⟨hrun, hended, _, _, rfl, ?_, ⟨_, rfl⟩, hW, hsame.mono (by decide) (by decide)⟩
          show Q_rmIa Z c0 h0 n0 _ s₁.heap _
          rw [e0]
          exact ⟨rfl, N0, rfl⟩
    · skip
      refine own_st (fun t_ k_ => XS.icmpNo X0.here hx rfl (hb hby d21_15) rfl (flt c15).1 k_) ?_
      show own_Go p e below s₁ (mkF m 18 #[.val (.int c0)] []) _
      have i15 := c15
      rw [Int32.lt_iff_toInt_lt] at i15
      refine own_st (fun t_ k_ => XS.iloadN X0.here hx rfl (hb hby d21_18) rfl k_) ?_
      show own_Go p e below s₁ (mkF m 19 #[.val (.int c0)] [(.int c0)]) _
      refine own_st (fun t_ k_ => XS.bipush X0.here hx rfl (hb hby d21_19) k_) ?_
      show own_Go p e below s₁ (mkF m 21 #[.val (.int c0)] [(.int (90 : Int32)), (.int c0)]) _
      by_cases c21 : (90 : Int32) < c0
      · skip
        refine own_st (fun t_ k_ => XS.icmpNo X0.here hx rfl (hb hby d21_21) rfl (tlt c21).2.2.2 k_) ?_
        show own_Go p e below s₁ (mkF m 24 #[.val (.int c0)] []) _
        have i21 := c21
        rw [Int32.lt_iff_toInt_lt] at i21
        refine own_st (fun t_ k_ => XS.iloadN X0.here hx rfl (hb hby d21_24) rfl k_) ?_
        show own_Go p e below s₁ (mkF m 25 #[.val (.int c0)] [(.int c0)]) _
        refine own_st (fun t_ k_ => XS.bipush X0.here hx rfl (hb hby d21_25) k_) ?_
        show own_Go p e below s₁ (mkF m 27 #[.val (.int c0)] [(.int (48 : Int32)), (.int c0)]) _
        by_cases c27 : c0 < (48 : Int32)
        · skip
          refine own_st (fun t_ k_ => XS.icmpYes X0.here hx rfl (pc0 := 27) (pc' := 36) rfl (hb hby d21_27) rfl (tlt c27).1 (by decide) (by decide) k_) ?_
          show own_Go p e below s₁ (mkF m 36 #[.val (.int c0)] []) _
          have i27 := c27
          rw [Int32.lt_iff_toInt_lt] at i27
          refine own_st (fun t_ k_ => XS.iloadN X0.here hx rfl (hb hby d21_36) rfl k_) ?_
          show own_Go p e below s₁ (mkF m 37 #[.val (.int c0)] [(.int c0)]) _
          refine own_st (fun t_ k_ => XS.bipush X0.here hx rfl (hb hby d21_37) k_) ?_
          show own_Go p e below s₁ (mkF m 39 #[.val (.int c0)] [(.int (45 : Int32)), (.int c0)]) _
          by_cases c39 : c0 = (45 : Int32)
          · skip
            refine own_st (fun t_ k_ => XS.icmpYes X0.here hx rfl (pc0 := 39) (pc' := 54) rfl (hb hby d21_39) rfl (teq c39).1 (by decide) (by decide) k_) ?_
            show own_Go p e below s₁ (mkF m 54 #[.val (.int c0)] []) _
            have i39 : c0.toInt = 45 := by rw [c39]; rfl
            refine own_st (fun t_ k_ => XS.iconst X0.here hx rfl (hb hby d21_54) k_) ?_
            show own_Go p e below s₁ (mkF m 55 #[.val (.int c0)] [(.int (1 : Int32))]) _
            refine own_st (fun t_ k_ => XS.goto X0.here hx rfl (pc0 := 55) (pc' := 59) rfl (hb hby d21_55) (by decide) (by decide) k_) ?_
            show own_Go p e below s₁ (mkF m 59 #[.val (.int c0)] [(.int (1 : Int32))]) _
            obtain ⟨fs, hr, hrun, hended, hW, hsame⟩ := X0.leave (v := some (.int (1 : Int32))) (fun h => by rw [Bd.returns] at h; cases h)
            refine own_fin (retN X0 hx (t := .boolean) Bd.returns (by simp) (hb hby d21_59) hr) ⟨hrun, hended, _, _, rfl, ?_, ⟨_, rfl⟩, hW, hsame.mono (by decide) (by decide)⟩
            show Q_rmIa Z c0 h0 n0 _ s₁.heap _
            rw [e0]
            exact ⟨rfl, N0, rfl⟩
          · skip
            refine own_st (fun t_ k_ => XS.icmpNo X0.here hx rfl (hb hby d21_39) rfl (feq c39).1 k_) ?_
            show own_Go p e below s₁ (mkF m 42 #[.val (.int c0)] []) _
            have i39 : ¬ c0.toInt = 45 := fun q => c39 (Int32.toInt_inj.mp q)
            refine own_st (fun t_ k_ => XS.iloadN X0.here hx rfl (hb hby d21_42) rfl k_) ?_
            show own_Go p e below s₁ (mkF m 43 #[.val (.int c0)] [(.int c0)]) _
            refine own_st (fun t_ k_ => XS.bipush X0.here hx rfl (hb hby d21_43) k_) ?_
            show own_Go p e below s₁ (mkF m 45 #[.val (.int c0)] [(.int (95 : Int32)), (.int c0)]) _
            by_cases c45 : c0 = (95 : Int32)
            · skip
              refine own_st (fun t_ k_ => XS.icmpYes X0.here hx rfl (pc0 := 45) (pc' := 54) rfl (hb hby d21_45) rfl (teq c45).1 (by decide) (by decide) k_) ?_
              show own_Go p e below s₁ (mkF m 54 #[.val (.int c0)] []) _
              have i45 : c0.toInt = 95 := by rw [c45]; rfl
              refine own_st (fun t_ k_ => XS.iconst X0.here hx rfl (hb hby d21_54) k_) ?_
              show own_Go p e below s₁ (mkF m 55 #[.val (.int c0)] [(.int (1 : Int32))]) _
              refine own_st (fun t_ k_ => XS.goto X0.here hx rfl (pc0 := 55) (pc' := 59) rfl (hb hby d21_55) (by decide) (by decide) k_) ?_
              show own_Go p e below s₁ (mkF m 59 #[.val (.int c0)] [(.int (1 : Int32))]) _
              obtain ⟨fs, hr, hrun, hended, hW, hsame⟩ := X0.leave (v := some (.int (1 : Int32))) (fun h => by rw [Bd.returns] at h; cases h)
              refine own_fin (retN X0 hx (t := .boolean) Bd.returns (by simp) (hb hby d21_59) hr) ⟨hrun, hended, _, _, rfl, ?_, ⟨_, rfl⟩, hW, hsame.mono (by decide) (by decide)⟩
              show Q_rmIa Z c0 h0 n0 _ s₁.heap _
              rw [e0]
              exact ⟨rfl, N0, rfl⟩
            · skip
              refine own_st (fun t_ k_ => XS.icmpNo X0.here hx rfl (hb hby d21_45) rfl (feq c45).1 k_) ?_
              show own_Go p e below s₁ (mkF m 48 #[.val (.int c0)] []) _
              have i45 : ¬ c0.toInt = 95 := fun q => c45 (Int32.toInt_inj.mp q)
              refine own_st (fun t_ k_ => XS.iloadN X0.here hx rfl (hb hby d21_48) rfl k_) ?_
              show own_Go p e below s₁ (mkF m 49 #[.val (.int c0)] [(.int c0)]) _
              refine own_st (fun t_ k_ => XS.bipush X0.here hx rfl (hb hby d21_49) k_) ?_
              show own_Go p e below s₁ (mkF m 51 #[.val (.int c0)] [(.int (46 : Int32)), (.int c0)]) _
              by_cases c51 : c0 = (46 : Int32)
              · skip
                refine own_st (fun t_ k_ => XS.icmpNo X0.here hx rfl (hb hby d21_51) rfl (teq c51).2 k_) ?_
                show own_Go p e below s₁ (mkF m 54 #[.val (.int c0)] []) _
                have i51 : c0.toInt = 46 := by rw [c51]; rfl
                refine own_st (fun t_ k_ => XS.iconst X0.here hx rfl (hb hby d21_54) k_) ?_
                show own_Go p e below s₁ (mkF m 55 #[.val (.int c0)] [(.int (1 : Int32))]) _
                refine own_st (fun t_ k_ => XS.goto X0.here hx rfl (pc0 := 55) (pc' := 59) rfl (hb hby d21_55) (by decide) (by decide) k_) ?_
                show own_Go p e below s₁ (mkF m 59 #[.val (.int c0)] [(.int (1 : Int32))]) _
                obtain ⟨fs, hr, hrun, hended, hW, hsame⟩ := X0.leave (v := some (.int (1 : Int32))) (fun h => by rw [Bd.returns] at h; cases h)
                refine own_fin (retN X0 hx (t := .boolean) Bd.returns (by simp) (hb hby d21_59) hr) ⟨hrun, hended, _, _, rfl, ?_, ⟨_, rfl⟩, hW, hsame.mono (by decide) (by decide)⟩
                show Q_rmIa Z c0 h0 n0 _ s₁.heap _
                rw [e0]
                exact ⟨rfl, N0, rfl⟩
              · skip
                refine own_st (fun t_ k_ => XS.icmpYes X0.here hx rfl (pc0 := 51) (pc' := 58) rfl (hb hby d21_51) rfl (feq c51).2 (by decide) (by decide) k_) ?_
                show own_Go p e below s₁ (mkF m 58 #[.val (.int c0)] []) _
                have i51 : ¬ c0.toInt = 46 := fun q => c51 (Int32.toInt_inj.mp q)
                refine own_st (fun t_ k_ => XS.iconst X0.here hx rfl (hb hby d21_58) k_) ?_
                show own_Go p e below s₁ (mkF m 59 #[.val (.int c0)] [(.int (0 : Int32))]) _
                exfalso
                unfold own_al at hal
                omega
        · skip
          refine own_st (fun t_ k_ => XS.icmpNo X0.here hx rfl (hb hby d21_27) rfl (flt c27).1 k_) ?_
          show own_Go p e below s₁ (mkF m 30 #[.val (.int c0)] []) _
          have i27 := c27
          rw [Int32.lt_iff_toInt_lt] at i27
          refine own_st (fun t_ k_ => XS.iloadN X0.here hx rfl (hb hby d21_30) rfl k_) ?_
          show own_Go p e below s₁ (mkF m 31 #[.val (.int c0)] [(.int c0)]) _
          refine own_st (fun t_ k_ => XS.bipush X0.here hx rfl (hb hby d21_31) k_) ?_
          show own_Go p e below s₁ (mkF m 33 #[.val (.int c0)] [(.int (57 : Int32)), (.int c0)]) _
          by_cases c33 : (57 : Int32) < c0
          · skip
            refine own_st (fun t_ k_ => XS.icmpNo X0.here hx rfl (hb hby d21_33) rfl (tlt c33).2.2.2 k_) ?_
            show own_Go p e below s₁ (mkF m 36 #[.val (.int c0)] []) _
            have i33 := c33
            rw [Int32.lt_iff_toInt_lt] at i33
            refine own_st (fun t_ k_ => XS.iloadN X0.here hx rfl (hb hby d21_36) rfl k_) ?_
            show own_Go p e below s₁ (mkF m 37 #[.val (.int c0)] [(.int c0)]) _
            refine own_st (fun t_ k_ => XS.bipush X0.here hx rfl (hb hby d21_37) k_) ?_
            show own_Go p e below s₁ (mkF m 39 #[.val (.int c0)] [(.int (45 : Int32)), (.int c0)]) _
            by_cases c39 : c0 = (45 : Int32)
            · skip
              refine own_st (fun t_ k_ => XS.icmpYes X0.here hx rfl (pc0 := 39) (pc' := 54) rfl (hb hby d21_39) rfl (teq c39).1 (by decide) (by decide) k_) ?_
              show own_Go p e below s₁ (mkF m 54 #[.val (.int c0)] []) _
              have i39 : c0.toInt = 45 := by rw [c39]; rfl
              refine own_st (fun t_ k_ => XS.iconst X0.here hx rfl (hb hby d21_54) k_) ?_
              show own_Go p e below s₁ (mkF m 55 #[.val (.int c0)] [(.int (1 : Int32))]) _
              refine own_st (fun t_ k_ => XS.goto X0.here hx rfl (pc0 := 55) (pc' := 59) rfl (hb hby d21_55) (by decide) (by decide) k_) ?_
              show own_Go p e below s₁ (mkF m 59 #[.val (.int c0)] [(.int (1 : Int32))]) _
              obtain ⟨fs, hr, hrun, hended, hW, hsame⟩ := X0.leave (v := some (.int (1 : Int32))) (fun h => by rw [Bd.returns] at h; cases h)
              refine own_fin (retN X0 hx (t := .boolean) Bd.returns (by simp) (hb hby d21_59) hr) ⟨hrun, hended, _, _, rfl, ?_, ⟨_, rfl⟩, hW, hsame.mono (by decide) (by decide)⟩
              show Q_rmIa Z c0 h0 n0 _ s₁.heap _
              rw [e0]
              exact ⟨rfl, N0, rfl⟩
            · skip
              refine own_st (fun t_ k_ => XS.icmpNo X0.here hx rfl (hb hby d21_39) rfl (feq c39).1 k_) ?_
              show own_Go p e below s₁ (mkF m 42 #[.val (.int c0)] []) _
              have i39 : ¬ c0.toInt = 45 := fun q => c39 (Int32.toInt_inj.mp q)
              refine own_st (fun t_ k_ => XS.iloadN X0.here hx rfl (hb hby d21_42) rfl k_) ?_
              show own_Go p e below s₁ (mkF m 43 #[.val (.int c0)] [(.int c0)]) _
              refine own_st (fun t_ k_ => XS.bipush X0.here hx rfl (hb hby d21_43) k_) ?_
              show own_Go p e below s₁ (mkF m 45 #[.val (.int c0)] [(.int (95 : Int32)), (.int c0)]) _
              by_cases c45 : c0 = (95 : Int32)
              · skip
                refine own_st (fun t_ k_ => XS.icmpYes X0.here hx rfl (pc0 := 45) (pc' := 54) rfl (hb hby d21_45) rfl (teq c45).1 (by decide) (by decide) k_) ?_
                show own_Go p e below s₁ (mkF m 54 #[.val (.int c0)] []) _
                have i45 : c0.toInt = 95 := by rw [c45]; rfl
                refine own_st (fun t_ k_ => XS.iconst X0.here hx rfl (hb hby d21_54) k_) ?_
                show own_Go p e below s₁ (mkF m 55 #[.val (.int c0)] [(.int (1 : Int32))]) _
                refine own_st (fun t_ k_ => XS.goto X0.here hx rfl (pc0 := 55) (pc' := 59) rfl (hb hby d21_55) (by decide) (by decide) k_) ?_
                show own_Go p e below s₁ (mkF m 59 #[.val (.int c0)] [(.int (1 : Int32))]) _
                obtain ⟨fs, hr, hrun, hended, hW, hsame⟩ := X0.leave (v := some (.int (1 : Int32))) (fun h => by rw [Bd.returns] at h; cases h)
                refine own_fin (retN X0 hx (t := .boolean) Bd.returns (by simp) (hb hby d21_59) hr) ⟨hrun, hended, _, _, rfl, ?_, ⟨_, rfl⟩, hW, hsame.mono (by decide) (by decide)⟩
                show Q_rmIa Z c0 h0 n0 _ s₁.heap _
                rw [e0]
                exact ⟨rfl, N0, rfl⟩
              · skip
                refine own_st (fun t_ k_ => XS.icmpNo X0.here hx rfl (hb hby d21_45) rfl (feq c45).1 k_) ?_
                show own_Go p e below s₁ (mkF m 48 #[.val (.int c0)] []) _
                have i45 : ¬ c0.toInt = 95 := fun q => c45 (Int32.toInt_inj.mp q)
                refine own_st (fun t_ k_ => XS.iloadN X0.here hx rfl (hb hby d21_48) rfl k_) ?_
                show own_Go p e below s₁ (mkF m 49 #[.val (.int c0)] [(.int c0)]) _
                refine own_st (fun t_ k_ => XS.bipush X0.here hx rfl (hb hby d21_49) k_) ?_
                show own_Go p e below s₁ (mkF m 51 #[.val (.int c0)] [(.int (46 : Int32)), (.int c0)]) _
                by_cases c51 : c0 = (46 : Int32)
                · skip
                  refine own_st (fun t_ k_ => XS.icmpNo X0.here hx rfl (hb hby d21_51) rfl (teq c51).2 k_) ?_
                  show own_Go p e below s₁ (mkF m 54 #[.val (.int c0)] []) _
                  have i51 : c0.toInt = 46 := by rw [c51]; rfl
                  refine own_st (fun t_ k_ => XS.iconst X0.here hx rfl (hb hby d21_54) k_) ?_
                  show own_Go p e below s₁ (mkF m 55 #[.val (.int c0)] [(.int (1 : Int32))]) _
                  refine own_st (fun t_ k_ => XS.goto X0.here hx rfl (pc0 := 55) (pc' := 59) rfl (hb hby d21_55) (by decide) (by decide) k_) ?_
                  show own_Go p e below s₁ (mkF m 59 #[.val (.int c0)] [(.int (1 : Int32))]) _
                  obtain ⟨fs, hr, hrun, hended, hW, hsame⟩ := X0.leave (v := some (.int (1 : Int32))) (fun h => by rw [Bd.returns] at h; cases h)
                  refine own_fin (retN X0 hx (t := .boolean) Bd.returns (by simp) (hb hby d21_59) hr) ⟨hrun, hended, _, _, rfl, ?_, ⟨_, rfl⟩, hW, hsame.mono (by decide) (by decide)⟩
                  show Q_rmIa Z c0 h0 n0 _ s₁.heap _
                  rw [e0]
                  exact ⟨rfl, N0, rfl⟩
                · skip
                  refine own_st (fun t_ k_ => XS.icmpYes X0.here hx rfl (pc0 := 51) (pc' := 58) rfl (hb hby d21_51) rfl (feq c51).2 (by decide) (by decide) k_) ?_
                  show own_Go p e below s₁ (mkF m 58 #[.val (.int c0)] []) _
                  have i51 : ¬ c0.toInt = 46 := fun q => c51 (Int32.toInt_inj.mp q)
                  refine own_st (fun t_ k_ => XS.iconst X0.here hx rfl (hb hby d21_58) k_) ?_
                  show own_Go p e below s₁ (mkF m 59 #[.val (.int c0)] [(.int (0 : Int32))]) _
                  exfalso
                  unfold own_al at hal
                  omega
          · skip
            refine own_st (fun t_ k_ => XS.icmpYes X0.here hx rfl (pc0 := 33) (pc' := 54) rfl (hb hby d21_33) rfl (flt c33).2.2.2 (by decide) (by decide) k_) ?_
            show own_Go p e below s₁ (mkF m 54 #[.val (.int c0)] []) _
            have i33 := c33
            rw [Int32.lt_iff_toInt_lt] at i33
            refine own_st (fun t_ k_ => XS.iconst X0.here hx rfl (hb hby d21_54) k_) ?_
            show own_Go p e below s₁ (mkF m 55 #[.val (.int c0)] [(.int (1 : Int32))]) _
            refine own_st (fun t_ k_ => XS.goto X0.here hx rfl (pc0 := 55) (pc' := 59) rfl (hb hby d21_55) (by decide) (by decide) k_) ?_
            show own_Go p e below s₁ (mkF m 59 #[.val (.int c0)] [(.int (1 : Int32))]) _
            obtain ⟨fs, hr, hrun, hended, hW, hsame⟩ := X0.leave (v := some (.int (1 : Int32))) (fun h => by rw [Bd.returns] at h; cases h)
            refine own_fin (retN X0 hx (t := .boolean) Bd.returns (by simp) (hb hby d21_59) hr) ⟨hrun, hended, _, _, rfl, ?_, ⟨_, rfl⟩, hW, hsame.mono (by decide) (by decide)⟩
            show Q_rmIa Z c0 h0 n0 _ s₁.heap _
            rw [e0]
            exact ⟨rfl, N0, rfl⟩
      · skip
        refine own_st (fun t_ k_ => XS.icmpYes X0.here hx rfl (pc0 := 21) (pc' := 54) rfl (hb hby d21_21) rfl (flt c21).2.2.2 (by decide) (by decide) k_) ?_
        show own_Go p e below s₁ (mkF m 54 #[.val (.int c0)] []) _
        have i21 := c21
        rw [Int32.lt_iff_toInt_lt] at i21
        refine own_st (fun t_ k_ => XS.iconst X0.here hx rfl (hb hby d21_54) k_) ?_
        show own_Go p e below s₁ (mkF m 55 #[.val (.int c0)] [(.int (1 : Int32))]) _
        refine own_st (fun t_ k_ => XS.goto X0.here hx rfl (pc0 := 55) (pc' := 59) rfl (hb hby d21_55) (by decide) (by decide) k_) ?_
        show own_Go p e below s₁ (mkF m 59 #[.val (.int c0)] [(.int (1 : Int32))]) _
        obtain ⟨fs, hr, hrun, hended, hW, hsame⟩ := X0.leave (v := some (.int (1 : Int32))) (fun h => by rw [Bd.returns] at h; cases h)
        refine own_fin (retN X0 hx (t := .boolean) Bd.returns (by simp) (hb hby d21_59) hr) ⟨hrun, hended, _, _, rfl, ?_, ⟨_, rfl⟩, hW, hsame.mono (by decide) (by decide)⟩
        show Q_rmIa Z c0 h0 n0 _ s₁.heap _
        rw [e0]
        exact ⟨rfl, N0, rfl⟩
  · skip
    refine own_st (fun t_ k_ => XS.icmpNo X0.here hx rfl (hb hby d21_3) rfl (flt c3).1 k_) ?_
    show own_Go p e below s₁ (mkF m 6 #[.val (.int c0)] []) _
    have i3 := c3
    rw [Int32.lt_iff_toInt_lt] at i3
    refine own_st (fun t_ k_ => XS.iloadN X0.here hx rfl (hb hby d21_6) rfl k_) ?_
    show own_Go p e below s₁ (mkF m 7 #[.val (.int c0)] [(.int c0)]) _
    refine own_st (fun t_ k_ => XS.bipush X0.here hx rfl (hb hby d21_7) k_) ?_
    show own_Go p e below s₁ (mkF m 9 #[.val (.int c0)] [(.int (122 : Int32)), (.int c0)]) _
    by_cases c9 : (122 : Int32) < c0
    · skip
      refine own_st (fun t_ k_ => XS.icmpNo X0.here hx rfl (hb hby d21_9) rfl (tlt c9).2.2.2 k_) ?_
      show own_Go p e below s₁ (mkF m 12 #[.val (.int c0)] []) _
      have i9 := c9
      rw [Int32.lt_iff_toInt_lt] at i9
      refine own_st (fun t_ k_ => XS.iloadN X0.here hx rfl (hb hby d21_12) rfl k_) ?_
      show own_Go p e below s₁ (mkF m 13 #[.val (.int c0)] [(.int c0)]) _
      refine own_st (fun t_ k_ => XS.bipush X0.here hx rfl (hb hby d21_13) k_) ?_
      show own_Go p e below s₁ (mkF m 15 #[.val (.int c0)] [(.int (65 : Int32)), (.int c0)]) _
      by_cases c15 : c0 < (65 : Int32)
      · skip
        refine own_st (fun t_ k_ => XS.icmpYes X0.here hx rfl (pc0 := 15) (pc' := 24) rfl (hb hby d21_15) rfl (tlt c15).1 (by decide) (by decide) k_) ?_
        show own_Go p e below s₁ (mkF m 24 #[.val (.int c0)] []) _
        have i15 := c15
        rw [Int32.lt_iff_toInt_lt] at i15
        refine own_st (fun t_ k_ => XS.iloadN X0.here hx rfl (hb hby d21_24) rfl k_) ?_
        show own_Go p e below s₁ (mkF m 25 #[.val (.int c0)] [(.int c0)]) _
        refine own_st (fun t_ k_ => XS.bipush X0.here hx rfl (hb hby d21_25) k_) ?_
        show own_Go p e below s₁ (mkF m 27 #[.val (.int c0)] [(.int (48 : Int32)), (.int c0)]) _
        by_cases c27 : c0 < (48 : Int32)
        · skip
          refine own_st (fun t_ k_ => XS.icmpYes X0.here hx rfl (pc0 := 27) (pc' := 36) rfl (hb hby d21_27) rfl (tlt c27).1 (by decide) (by decide) k_) ?_
          show own_Go p e below s₁ (mkF m 36 #[.val (.int c0)] []) _
          have i27 := c27
          rw [Int32.lt_iff_toInt_lt] at i27
          refine own_st (fun t_ k_ => XS.iloadN X0.here hx rfl (hb hby d21_36) rfl k_) ?_
          show own_Go p e below s₁ (mkF m 37 #[.val (.int c0)] [(.int c0)]) _
          refine own_st (fun t_ k_ => XS.bipush X0.here hx rfl (hb hby d21_37) k_) ?_
          show own_Go p e below s₁ (mkF m 39 #[.val (.int c0)] [(.int (45 : Int32)), (.int c0)]) _
          by_cases c39 : c0 = (45 : Int32)
          · skip
            refine own_st (fun t_ k_ => XS.icmpYes X0.here hx rfl (pc0 := 39) (pc' := 54) rfl (hb hby d21_39) rfl (teq c39).1 (by decide) (by decide) k_) ?_
            show own_Go p e below s₁ (mkF m 54 #[.val (.int c0)] []) _
            have i39 : c0.toInt = 45 := by rw [c39]; rfl
            refine own_st (fun t_ k_ => XS.iconst X0.here hx rfl (hb hby d21_54) k_) ?_
            show own_Go p e below s₁ (mkF m 55 #[.val (.int c0)] [(.int (1 : Int32))]) _
            refine own_st (fun t_ k_ => XS.goto X0.here hx rfl (pc0 := 55) (pc' := 59) rfl (hb hby d21_55) (by decide) (by decide) k_) ?_
            show own_Go p e below s₁ (mkF m 59 #[.val (.int c0)] [(.int (1 : Int32))]) _
            obtain ⟨fs, hr, hrun, hended, hW, hsame⟩ := X0.leave (v := some (.int (1 : Int32))) (fun h => by rw [Bd.returns] at h; cases h)
            refine own_fin (retN X0 hx (t := .boolean) Bd.returns (by simp) (hb hby d21_59) hr) ⟨hrun, hended, _, _, rfl, ?_, ⟨_, rfl⟩, hW, hsame.mono (by decide) (by decide)⟩
            show Q_rmIa Z c0 h0 n0 _ s₁.heap _
            rw [e0]
            exact ⟨rfl, N0, rfl⟩
          · skip
            refine own_st (fun t_ k_ => XS.icmpNo X0.here hx rfl (hb hby d21_39) rfl (feq c39).1 k_) ?_
            show own_Go p e below s₁ (mkF m 42 #[.val (.int c0)] []) _
            have i39 : ¬ c0.toInt = 45 := fun q => c39 (Int32.toInt_inj.mp q)
            refine own_st (fun t_ k_ => XS.iloadN X0.here hx rfl (hb hby d21_42) rfl k_) ?_
            show own_Go p e below s₁ (mkF m 43 #[.val (.int c0)] [(.int c0)]) _
            refine own_st (fun t_ k_ => XS.bipush X0.here hx rfl (hb hby d21_43) k_) ?_
            show own_Go p e below s₁ (mkF m 45 #[.val (.int c0)] [(.int (95 : Int32)), (.int c0)]) _
            by_cases c45 : c0 = (95 : Int32)
            · skip
              refine own_st (fun t_ k_ => XS.icmpYes X0.here hx rfl (pc0 := 45) (pc' := 54) rfl (hb hby d21_45) rfl (teq c45).1 (by decide) (by decide) k_) ?_
              show own_Go p e below s₁ (mkF m 54 #[.val (.int c0)] []) _
              have i45 : c0.toInt = 95 := by rw [c45]; rfl
              refine own_st (fun t_ k_ => XS.iconst X0.here hx rfl (hb hby d21_54) k_) ?_
              show own_Go p e below s₁ (mkF m 55 #[.val (.int c0)] [(.int (1 : Int32))]) _
              refine own_st (fun t_ k_ => XS.goto X0.here hx rfl (pc0 := 55) (pc' := 59) rfl (hb hby d21_55) (by decide) (by decide) k_) ?_
              show own_Go p e below s₁ (mkF m 59 #[.val (.int c0)] [(.int (1 : Int32))]) _
              obtain ⟨fs, hr, hrun, hended, hW, hsame⟩ := X0.leave (v := some (.int (1 : Int32))) (fun h => by rw [Bd.returns] at h; cases h)
              refine own_fin (retN X0 hx (t := .boolean) Bd.returns (by simp) (hb hby d21_59) hr) ⟨hrun, hended, _, _, rfl, ?_, ⟨_, rfl⟩, hW, hsame.mono (by decide) (by decide)⟩
              show Q_rmIa Z c0 h0 n0 _ s₁.heap _
              rw [e0]
              exact ⟨rfl, N0, rfl⟩
            · skip
              refine own_st (fun t_ k_ => XS.icmpNo X0.here hx rfl (hb hby d21_45) rfl (feq c45).1 k_) ?_
              show own_Go p e below s₁ (mkF m 48 #[.val (.int c0)] []) _
              have i45 : ¬ c0.toInt = 95 := fun q => c45 (Int32.toInt_inj.mp q)
              refine own_st (fun t_ k_ => XS.iloadN X0.here hx rfl (hb hby d21_48) rfl k_) ?_
              show own_Go p e below s₁ (mkF m 49 #[.val (.int c0)] [(.int c0)]) _
              refine own_st (fun t_ k_ => XS.bipush X0.here hx rfl (hb hby d21_49) k_) ?_
              show own_Go p e below s₁ (mkF m 51 #[.val (.int c0)] [(.int (46 : Int32)), (.int c0)]) _
              by_cases c51 : c0 = (46 : Int32)
              · skip
                refine own_st (fun t_ k_ => XS.icmpNo X0.here hx rfl (hb hby d21_51) rfl (teq c51).2 k_) ?_
                show own_Go p e below s₁ (mkF m 54 #[.val (.int c0)] []) _
                have i51 : c0.toInt = 46 := by rw [c51]; rfl
                refine own_st (fun t_ k_ => XS.iconst X0.here hx rfl (hb hby d21_54) k_) ?_
                show own_Go p e below s₁ (mkF m 55 #[.val (.int c0)] [(.int (1 : Int32))]) _
                refine own_st (fun t_ k_ => XS.goto X0.here hx rfl (pc0 := 55) (pc' := 59) rfl (hb hby d21_55) (by decide) (by decide) k_) ?_
                show own_Go p e below s₁ (mkF m 59 #[.val (.int c0)] [(.int (1 : Int32))]) _
                obtain ⟨fs, hr, hrun, hended, hW, hsame⟩ := X0.leave (v := some (.int (1 : Int32))) (fun h => by rw [Bd.returns] at h; cases h)
                refine own_fin (retN X0 hx (t := .boolean) Bd.returns (by simp) (hb hby d21_59) hr) ⟨hrun, hended, _, _, rfl, ?_, ⟨_, rfl⟩, hW, hsame.mono (by decide) (by decide)⟩
                show Q_rmIa Z c0 h0 n0 _ s₁.heap _
                rw [e0]
                exact ⟨rfl, N0, rfl⟩
              · skip
                refine own_st (fun t_ k_ => XS.icmpYes X0.here hx rfl (pc0 := 51) (pc' := 58) rfl (hb hby d21_51) rfl (feq c51).2 (by decide) (by decide) k_) ?_
                show own_Go p e below s₁ (mkF m 58 #[.val (.int c0)] []) _
                have i51 : ¬ c0.toInt = 46 := fun q => c51 (Int32.toInt_inj.mp q)
                refine own_st (fun t_ k_ => XS.iconst X0.here hx rfl (hb hby d21_58) k_) ?_
                show own_Go p e below s₁ (mkF m 59 #[.val (.int c0)] [(.int (0 : Int32))]) _
                exfalso
                unfold own_al at hal
                omega
        · skip
          refine own_st (fun t_ k_ => XS.icmpNo X0.here hx rfl (hb hby d21_27) rfl (flt c27).1 k_) ?_
          show own_Go p e below s₁ (mkF m 30 #[.val (.int c0)] []) _
          have i27 := c27
          rw [Int32.lt_iff_toInt_lt] at i27
          refine own_st (fun t_ k_ => XS.iloadN X0.here hx rfl (hb hby d21_30) rfl k_) ?_
          show own_Go p e below s₁ (mkF m 31 #[.val (.int c0)] [(.int c0)]) _
          refine own_st (fun t_ k_ => XS.bipush X0.here hx rfl (hb hby d21_31) k_) ?_
          show own_Go p e below s₁ (mkF m 33 #[.val (.int c0)] [(.int (57 : Int32)), (.int c0)]) _
          by_cases c33 : (57 : Int32) < c0
          · skip
            refine own_st (fun t_ k_ => XS.icmpNo X0.here hx rfl (hb hby d21_33) rfl (tlt c33).2.2.2 k_) ?_
            show own_Go p e below s₁ (mkF m 36 #[.val (.int c0)] []) _
            have i33 := c33
            rw [Int32.lt_iff_toInt_lt] at i33
            refine own_st (fun t_ k_ => XS.iloadN X0.here hx rfl (hb hby d21_36) rfl k_) ?_
            show own_Go p e below s₁ (mkF m 37 #[.val (.int c0)] [(.int c0)]) _
            refine own_st (fun t_ k_ => XS.bipush X0.here hx rfl (hb hby d21_37) k_) ?_
            show own_Go p e below s₁ (mkF m 39 #[.val (.int c0)] [(.int (45 : Int32)), (.int c0)]) _
            by_cases c39 : c0 = (45 : Int32)
            · skip
              refine own_st (fun t_ k_ => XS.icmpYes X0.here hx rfl (pc0 := 39) (pc' := 54) rfl (hb hby d21_39) rfl (teq c39).1 (by decide) (by decide) k_) ?_
              show own_Go p e below s₁ (mkF m 54 #[.val (.int c0)] []) _
              have i39 : c0.toInt = 45 := by rw [c39]; rfl
              refine own_st (fun t_ k_ => XS.iconst X0.here hx rfl (hb hby d21_54) k_) ?_
              show own_Go p e below s₁ (mkF m 55 #[.val (.int c0)] [(.int (1 : Int32))]) _
              refine own_st (fun t_ k_ => XS.goto X0.here hx rfl (pc0 := 55) (pc' := 59) rfl (hb hby d21_55) (by decide) (by decide) k_) ?_
              show own_Go p e below s₁ (mkF m 59 #[.val (.int c0)] [(.int (1 : Int32))]) _
              obtain ⟨fs, hr, hrun, hended, hW, hsame⟩ := X0.leave (v := some (.int (1 : Int32))) (fun h => by rw [Bd.returns] at h; cases h)
              refine own_fin (retN X0 hx (t := .boolean) Bd.returns (by simp) (hb hby d21_59) hr) ⟨hrun, hended, _, _, rfl, ?_, ⟨_, rfl⟩, hW, hsame.mono (by decide) (by decide)⟩
              show Q_rmIa Z c0 h0 n0 _ s₁.heap _
              rw [e0]
              exact ⟨rfl, N0, rfl⟩
            · skip
              refine own_st (fun t_ k_ => XS.icmpNo X0.here hx rfl (hb hby d21_39) rfl (feq c39).1 k_) ?_
              show own_Go p e below s₁ (mkF m 42 #[.val (.int c0)] []) _
              have i39 : ¬ c0.toInt = 45 := fun q => c39 (Int32.toInt_inj.mp q)
              refine own_st (fun t_ k_ => XS.iloadN X0.here hx rfl (hb hby d21_42) rfl k_) ?_
              show own_Go p e below s₁ (mkF m 43 #[.val (.int c0)] [(.int c0)]) _
              refine own_st (fun t_ k_ => XS.bipush X0.here hx rfl (hb hby d21_43) k_) ?_
              show own_Go p e below s₁ (mkF m 45 #[.val (.int c0)] [(.int (95 : Int32)), (.int c0)]) _
              by_cases c45 : c0 = (95 : Int32)
              · skip
                refine own_st (fun t_ k_ => XS.icmpYes X0.here hx rfl (pc0 := 45) (pc' := 54) rfl (hb hby d21_45) rfl (teq c45).1 (by decide) (by decide) k_) ?_
                show own_Go p e below s₁ (mkF m 54 #[.val (.int c0)] []) _
                have i45 : c0.toInt = 95 := by rw [c45]; rfl
                refine own_st (fun t_ k_ => XS.iconst X0.here hx rfl (hb hby d21_54) k_) ?_
                show own_Go p e below s₁ (mkF m 55 #[.val (.int c0)] [(.int (1 : Int32))]) _
                refine own_st (fun t_ k_ => XS.goto X0.here hx rfl (pc0 := 55) (pc' := 59) rfl (hb hby d21_55) (by decide) (by decide) k_) ?_
                show own_Go p e below s₁ (mkF m 59 #[.val (.int c0)] [(.int (1 : Int32))]) _
                obtain ⟨fs, hr, hrun, hended, hW, hsame⟩ := X0.leave (v := some (.int (1 : Int32))) (fun h => by rw [Bd.returns] at h; cases h)
                refine own_fin (retN X0 hx (t := .boolean) Bd.returns (by simp) (hb hby d21_59) hr) ⟨hrun, hended, _, _, rfl, ?_, ⟨_, rfl⟩, hW, hsame.mono (by decide) (by decide)⟩
                show Q_rmIa Z c0 h0 n0 _ s₁.heap _
                rw [e0]
                exact ⟨rfl, N0, rfl⟩
              · skip
                refine own_st (fun t_ k_ => XS.icmpNo X0.here hx rfl (hb hby d21_45) rfl (feq c45).1 k_) ?_
                show own_Go p e below s₁ (mkF m 48 #[.val (.int c0)] []) _
                have i45 : ¬ c0.toInt = 95 := fun q => c45 (Int32.toInt_inj.mp q)
                refine own_st (fun t_ k_ => XS.iloadN X0.here hx rfl (hb hby d21_48) rfl k_) ?_
                show own_Go p e below s₁ (mkF m 49 #[.val (.int c0)] [(.int c0)]) _
                refine own_st (fun t_ k_ => XS.bipush X0.here hx rfl (hb hby d21_49) k_) ?_
                show own_Go p e below s₁ (mkF m 51 #[.val (.int c0)] [(.int (46 : Int32)), (.int c0)]) _
                by_cases c51 : c0 = (46 : Int32)
                · skip
                  refine own_st (fun t_ k_ => XS.icmpNo X0.here hx rfl (hb hby d21_51) rfl (teq c51).2 k_) ?_
                  show own_Go p e below s₁ (mkF m 54 #[.val (.int c0)] []) _
                  have i51 : c0.toInt = 46 := by rw [c51]; rfl
                  refine own_st (fun t_ k_ => XS.iconst X0.here hx rfl (hb hby d21_54) k_) ?_
                  show own_Go p e below s₁ (mkF m 55 #[.val (.int c0)] [(.int (1 : Int32))]) _
                  refine own_st (fun t_ k_ => XS.goto X0.here hx rfl (pc0 := 55) (pc' := 59) rfl (hb hby d21_55) (by decide) (by decide) k_) ?_
                  show own_Go p e below s₁ (mkF m 59 #[.val (.int c0)] [(.int (1 : Int32))]) _
                  obtain ⟨fs, hr, hrun, hended, hW, hsame⟩ := X0.leave (v := some (.int (1 : Int32))) (fun h => by rw [Bd.returns] at h; cases h)
                  refine own_fin (retN X0 hx (t := .boolean) Bd.returns (by simp) (hb hby d21_59) hr) ⟨hrun, hended, _, _, rfl, ?_, ⟨_, rfl⟩, hW, hsame.mono (by decide) (by decide)⟩
                  show Q_rmIa Z c0 h0 n0 _ s₁.heap _
                  rw [e0]
                  exact ⟨rfl, N0, rfl⟩
                · skip
                  refine own_st (fun t_ k_ => XS.icmpYes X0.here hx rfl (pc0 := 51) (pc' := 58) rfl (hb hby d21_51) rfl (feq c51).2 (by decide) (by decide) k_) ?_
                  show own_Go p e below s₁ (mkF m 58 #[.val (.int c0)] []) _
                  have i51 : ¬ c0.toInt = 46 := fun q => c51 (Int32.toInt_inj.mp q)
                  refine own_st (fun t_ k_ => XS.iconst X0.here hx rfl (hb hby d21_58) k_) ?_
                  show own_Go p e below s₁ (mkF m 59 #[.val (.int c0)] [(.int (0 : Int32))]) _
                  exfalso
                  unfold own_al at hal
                  omega
          · skip
            refine own_st (fun t_ k_ => XS.icmpYes X0.here hx rfl (pc0 := 33) (pc' := 54) rfl (hb hby d21_33) rfl (flt c33).2.2.2 (by decide) (by decide) k_) ?_
            show own_Go p e below s₁ (mkF m 54 #[.val (.int c0)] []) _
            have i33 := c33
            rw [Int32.lt_iff_toInt_lt] at i33
            refine own_st (fun t_ k_ => XS.iconst X0.here hx rfl (hb hby d21_54) k_) ?_
            show own_Go p e below s₁ (mkF m 55 #[.val (.int c0)] [(.int (1 : Int32))]) _
            refine own_st (fun t_ k_ => XS.goto X0.here hx rfl (pc0 := 55) (pc' := 59) rfl (hb hby d21_55) (by decide) (by decide) k_) ?_
            show own_Go p e below s₁ (mkF m 59 #[.val (.int c0)] [(.int (1 : Int32))]) _
            obtain ⟨fs, hr, hrun, hended, hW, hsame⟩ := X0.leave (v := some (.int (1 : Int32))) (fun h => by rw [Bd.returns] at h; cases h)
            refine own_fin (retN X0 hx (t := .boolean) Bd.returns (by simp) (hb hby d21_59) hr) ⟨hrun, hended, _, _, rfl, ?_, ⟨_, rfl⟩, hW, hsame.mono (by decide) (by decide)⟩
            show Q_rmIa Z c0 h0 n0 _ s₁.heap _
            rw [e0]
            exact ⟨rfl, N0, rfl⟩
      · skip
        refine own_st (fun t_ k_ => XS.icmpNo X0.here hx rfl (hb hby d21_15) rfl (flt c15).1 k_) ?_
        show own_Go p e below s₁ (mkF m 18 #[.val (.int c0)] []) _
        have i15 := c15
        rw [Int32.lt_iff_toInt_lt] at i15
        refine own_st (fun t_ k_ => XS.iloadN X0.here hx rfl (hb hby d21_18) rfl k_) ?_
        show own_Go p e below s₁ (mkF m 19 #[.val (.int c0)] [(.int c0)]) _
        refine own_st (fun t_ k_ => XS.bipush X0.here hx rfl (hb hby d21_19) k_) ?_
        show own_Go p e below s₁ (mkF m 21 #[.val (.int c0)] [(.int (90 : Int32)), (.int c0)]) _
        by_cases c21 : (90 : Int32) < c0
        · skip
          refine own_st (fun t_ k_ => XS.icmpNo X0.here hx rfl (hb hby d21_21) rfl (tlt c21).2.2.2 k_) ?_
          show own_Go p e below s₁ (mkF m 24 #[.val (.int c0)] []) _
          have i21 := c21
          rw [Int32.lt_iff_toInt_lt] at i21
          refine own_st (fun t_ k_ => XS.iloadN X0.here hx rfl (hb hby d21_24) rfl k_) ?_
          show own_Go p e below s₁ (mkF m 25 #[.val (.int c0)] [(.int c0)]) _
          refine own_st (fun t_ k_ => XS.bipush X0.here hx rfl (hb hby d21_25) k_) ?_
          show own_Go p e below s₁ (mkF m 27 #[.val (.int c0)] [(.int (48 : Int32)), (.int c0)]) _
          by_cases c27 : c0 < (48 : Int32)
          · skip
            refine own_st (fun t_ k_ => XS.icmpYes X0.here hx rfl (pc0 := 27) (pc' := 36) rfl (hb hby d21_27) rfl (tlt c27).1 (by decide) (by decide) k_) ?_
            show own_Go p e below s₁ (mkF m 36 #[.val (.int c0)] []) _
            have i27 := c27
            rw [Int32.lt_iff_toInt_lt] at i27
            refine own_st (fun t_ k_ => XS.iloadN X0.here hx rfl (hb hby d21_36) rfl k_) ?_
            show own_Go p e below s₁ (mkF m 37 #[.val (.int c0)] [(.int c0)]) _
            refine own_st (fun t_ k_ => XS.bipush X0.here hx rfl (hb hby d21_37) k_) ?_
            show own_Go p e below s₁ (mkF m 39 #[.val (.int c0)] [(.int (45 : Int32)), (.int c0)]) _
            by_cases c39 : c0 = (45 : Int32)
            · skip
              refine own_st (fun t_ k_ => XS.icmpYes X0.here hx rfl (pc0 := 39) (pc' := 54) rfl (hb hby d21_39) rfl (teq c39).1 (by decide) (by decide) k_) ?_
              show own_Go p e below s₁ (mkF m 54 #[.val (.int c0)] []) _
              have i39 : c0.toInt = 45 := by rw [c39]; rfl
              refine own_st (fun t_ k_ => XS.iconst X0.here hx rfl (hb hby d21_54) k_) ?_
              show own_Go p e below s₁ (mkF m 55 #[.val (.int c0)] [(.int (1 : Int32))]) _
              refine own_st (fun t_ k_ => XS.goto X0.here hx rfl (pc0 := 55) (pc' := 59) rfl (hb hby d21_55) (by decide) (by decide) k_) ?_
              show own_Go p e below s₁ (mkF m 59 #[.val (.int c0)] [(.int (1 : Int32))]) _
              obtain ⟨fs, hr, hrun, hended, hW, hsame⟩ := X0.leave (v := some (.int (1 : Int32))) (fun h => by rw [Bd.returns] at h; cases h)
              refine own_fin (retN X0 hx (t := .boolean) Bd.returns (by simp) (hb hby d21_59) hr) ⟨hrun, hended, _, _, rfl, ?_, ⟨_, rfl⟩, hW, hsame.mono (by decide) (by decide)⟩
              show Q_rmIa Z c0 h0 n0 _ s₁.heap _
              rw [e0]
              exact ⟨rfl, N0, rfl⟩
            · skip
              refine own_st (fun t_ k_ => XS.icmpNo X0.here hx rfl (hb hby d21_39) rfl (feq c39).1 k_) ?_
              show own_Go p e below s₁ (mkF m 42 #[.val (.int c0)] []) _
              have i39 : ¬ c0.toInt = 45 := fun q => c39 (Int32.toInt_inj.mp q)
              refine own_st (fun t_ k_ => XS.iloadN X0.here hx rfl (hb hby d21_42) rfl k_) ?_
              show own_Go p e below s₁ (mkF m 43 #[.val (.int c0)] [(.int c0)]) _
              refine own_st (fun t_ k_ => XS.bipush X0.here hx rfl (hb hby d21_43) k_) ?_
              show own_Go p e below s₁ (mkF m 45 #[.val (.int c0)] [(.int (95 : Int32)), (.int c0)]) _
              by_cases c45 : c0 = (95 : Int32)
              · skip
                refine own_st (fun t_ k_ => XS.icmpYes X0.here hx rfl (pc0 := 45) (pc' := 54) rfl (hb hby d21_45) rfl (teq c45).1 (by decide) (by decide) k_) ?_
                show own_Go p e below s₁ (mkF m 54 #[.val (.int c0)] []) _
                have i45 : c0.toInt = 95 := by rw [c45]; rfl
                refine own_st (fun t_ k_ => XS.iconst X0.here hx rfl (hb hby d21_54) k_) ?_
                show own_Go p e below s₁ (mkF m 55 #[.val (.int c0)] [(.int (1 : Int32))]) _
                refine own_st (fun t_ k_ => XS.goto X0.here hx rfl (pc0 := 55) (pc' := 59) rfl (hb hby d21_55) (by decide) (by decide) k_) ?_
                show own_Go p e below s₁ (mkF m 59 #[.val (.int c0)] [(.int (1 : Int32))]) _
                obtain ⟨fs, hr, hrun, hended, hW, hsame⟩ := X0.leave (v := some (.int (1 : Int32))) (fun h => by rw [Bd.returns] at h; cases h)
                refine own_fin (retN X0 hx (t := .boolean) Bd.returns (by simp) (hb hby d21_59) hr) ⟨hrun, hended, _, _, rfl, ?_, ⟨_, rfl⟩, hW, hsame.mono (by decide) (by decide)⟩
                show Q_rmIa Z c0 h0 n0 _ s₁.heap _
                rw [e0]
                exact ⟨rfl, N0, rfl⟩
              · skip
                refine own_st (fun t_ k_ => XS.icmpNo X0.here hx rfl (hb hby d21_45) rfl (feq c45).1 k_) ?_
                show own_Go p e below s₁ (mkF m 48 #[.val (.int c0)] []) _
                have i45 : ¬ c0.toInt = 95 := fun q => c45 (Int32.toInt_inj.mp q)
                refine own_st (fun t_ k_ => XS.iloadN X0.here hx rfl (hb hby d21_48) rfl k_) ?_
                show own_Go p e below s₁ (mkF m 49 #[.val (.int c0)] [(.int c0)]) _
                refine own_st (fun t_ k_ => XS.bipush X0.here hx rfl (hb hby d21_49) k_) ?_
                show own_Go p e below s₁ (mkF m 51 #[.val (.int c0)] [(.int (46 : Int32)), (.int c0)]) _
                by_cases c51 : c0 = (46 : Int32)
                · skip
                  refine own_st (fun t_ k_ => XS.icmpNo X0.here hx rfl (hb hby d21_51) rfl (teq c51).2 k_) ?_
                  show own_Go p e below s₁ (mkF m 54 #[.val (.int c0)] []) _
                  have i51 : c0.toInt = 46 := by rw [c51]; rfl
                  refine own_st (fun t_ k_ => XS.iconst X0.here hx rfl (hb hby d21_54) k_) ?_
                  show own_Go p e below s₁ (mkF m 55 #[.val (.int c0)] [(.int (1 : Int32))]) _
                  refine own_st (fun t_ k_ => XS.goto X0.here hx rfl (pc0 := 55) (pc' := 59) rfl (hb hby d21_55) (by decide) (by decide) k_) ?_
                  show own_Go p e below s₁ (mkF m 59 #[.val (.int c0)] [(.int (1 : Int32))]) _
                  obtain ⟨fs, hr, hrun, hended, hW, hsame⟩ := X0.leave (v := some (.int (1 : Int32))) (fun h => by rw [Bd.returns] at h; cases h)
                  refine own_fin (retN X0 hx (t := .boolean) Bd.returns (by simp) (hb hby d21_59) hr) ⟨hrun, hended, _, _, rfl, ?_, ⟨_, rfl⟩, hW, hsame.mono (by decide) (by decide)⟩
                  show Q_rmIa Z c0 h0 n0 _ s₁.heap _
                  rw [e0]
                  exact ⟨rfl, N0, rfl⟩
                · skip
                  refine own_st (fun t_ k_ => XS.icmpYes X0.here hx rfl (pc0 := 51) (pc' := 58) rfl (hb hby d21_51) rfl (feq c51).2 (by decide) (by decide) k_) ?_
                  show own_Go p e below s₁ (mkF m 58 #[.val (.int c0)] []) _
                  have i51 : ¬ c0.toInt = 46 := fun q => c51 (Int32.toInt_inj.mp q)
                  refine own_st (fun t_ k_ => XS.iconst X0.here hx rfl (hb hby d21_58) k_) ?_
                  show own_Go p e below s₁ (mkF m 59 #[.val (.int c0)] [(.int (0 : Int32))]) _
                  exfalso
                  unfold own_al at hal
                  omega
          · skip
            refine own_st (fun t_ k_ => XS.icmpNo X0.here hx rfl (hb hby d21_27) rfl (flt c27).1 k_) ?_
            show own_Go p e below s₁ (mkF m 30 #[.val (.int c0)] []) _
            have i27 := c27
            rw [Int32.lt_iff_toInt_lt] at i27
            refine own_st (fun t_ k_ => XS.iloadN X0.here hx rfl (hb hby d21_30) rfl k_) ?_
            show own_Go p e below s₁ (mkF m 31 #[.val (.int c0)] [(.int c0)]) _
            refine own_st (fun t_ k_ => XS.bipush X0.here hx rfl (hb hby d21_31) k_) ?_
            show own_Go p e below s₁ (mkF m 33 #[.val (.int c0)] [(.int (57 : Int32)), (.int c0)]) _
            by_cases c33 : (57 : Int32) < c0
            · skip
              refine own_st (fun t_ k_ => XS.icmpNo X0.here hx rfl (hb hby d21_33) rfl (tlt c33).2.2.2 k_) ?_
              show own_Go p e below s₁ (mkF m 36 #[.val (.int c0)] []) _
              have i33 := c33
              rw [Int32.lt_iff_toInt_lt] at i33
              refine own_st (fun t_ k_ => XS.iloadN X0.here hx rfl (hb hby d21_36) rfl k_) ?_
              show own_Go p e below s₁ (mkF m 37 #[.val (.int c0)] [(.int c0)]) _
              refine own_st (fun t_ k_ => XS.bipush X0.here hx rfl (hb hby d21_37) k_) ?_
              show own_Go p e below s₁ (mkF m 39 #[.val (.int c0)] [(.int (45 : Int32)), (.int c0)]) _
              by_cases c39 : c0 = (45 : Int32)
              · skip
                refine own_st (fun t_ k_ => XS.icmpYes X0.here hx rfl (pc0 := 39) (pc' := 54) rfl (hb hby d21_39) rfl (teq c39).1 (by decide) (by decide) k_) ?_
                show own_Go p e below s₁ (mkF m 54 #[.val (.int c0)] []) _
                have i39 : c0.toInt = 45 := by rw [c39]; rfl
                refine own_st (fun t_ k_ => XS.iconst X0.here hx rfl (hb hby d21_54) k_) ?_
                show own_Go p e below s₁ (mkF m 55 #[.val (.int c0)] [(.int (1 : Int32))]) _
                refine own_st (fun t_ k_ => XS.goto X0.here hx rfl (pc0 := 55) (pc' := 59) rfl (hb hby d21_55) (by decide) (by decide) k_) ?_
                show own_Go p e below s₁ (mkF m 59 #[.val (.int c0)] [(.int (1 : Int32))]) _
                obtain ⟨fs, hr, hrun, hended, hW, hsame⟩ := X0.leave (v := some (.int (1 : Int32))) (fun h => by rw [Bd.returns] at h; cases h)
                refine own_fin (retN X0 hx (t := .boolean) Bd.returns (by simp) (hb hby d21_59) hr) ⟨hrun, hended, _, _, rfl, ?_, ⟨_, rfl⟩, hW, hsame.mono (by decide) (by decide)⟩
                show Q_rmIa Z c0 h0 n0 _ s₁.heap _
                rw [e0]
                exact ⟨rfl, N0, rfl⟩
              · skip
                refine own_st (fun t_ k_ => XS.icmpNo X0.here hx rfl (hb hby d21_39) rfl (feq c39).1 k_) ?_
                show own_Go p e below s₁ (mkF m 42 #[.val (.int c0)] []) _
                have i39 : ¬ c0.toInt = 45 := fun q => c39 (Int32.toInt_inj.mp q)
                refine own_st (fun t_ k_ => XS.iloadN X0.here hx rfl (hb hby d21_42) rfl k_) ?_
                show own_Go p e below s₁ (mkF m 43 #[.val (.int c0)] [(.int c0)]) _
                refine own_st (fun t_ k_ => XS.bipush X0.here hx rfl (hb hby d21_43) k_) ?_
                show own_Go p e below s₁ (mkF m 45 #[.val (.int c0)] [(.int (95 : Int32)), (.int c0)]) _
                by_cases c45 : c0 = (95 : Int32)
                · skip
                  refine own_st (fun t_ k_ => XS.icmpYes X0.here hx rfl (pc0 := 45) (pc' := 54) rfl (hb hby d21_45) rfl (teq c45).1 (by decide) (by decide) k_) ?_
                  show own_Go p e below s₁ (mkF m 54 #[.val (.int c0)] []) _
                  have i45 : c0.toInt = 95 := by rw [c45]; rfl
                  refine own_st (fun t_ k_ => XS.iconst X0.here hx rfl (hb hby d21_54) k_) ?_
                  show own_Go p e below s₁ (mkF m 55 #[.val (.int c0)] [(.int (1 : Int32))]) _
                  refine own_st (fun t_ k_ => XS.goto X0.here hx rfl (pc0 := 55) (pc' := 59) rfl (hb hby d21_55) (by decide) (by decide) k_) ?_
                  show own_Go p e below s₁ (mkF m 59 #[.val (.int c0)] [(.int (1 : Int32))]) _
                  obtain ⟨fs, hr, hrun, hended, hW, hsame⟩ := X0.leave (v := some (.int (1 : Int32))) (fun h => by rw [Bd.returns] at h; cases h)
                  refine own_fin (retN X0 hx (t := .boolean) Bd.returns (by simp) (hb hby d21_59) hr) ⟨hrun, hended, _, _, rfl, ?_, ⟨_, rfl⟩, hW, hsame.mono (by decide) (by decide)⟩
                  show Q_rmIa Z c0 h0 n0 _ s₁.heap _
                  rw [e0]
                  exact ⟨rfl, N0, rfl⟩
                · skip
                  refine own_st (fun t_ k_ => XS.icmpNo X0.here hx rfl (hb hby d21_45) rfl (feq c45).1 k_) ?_
                  show own_Go p e below s₁ (mkF m 48 #[.val (.int c0)] []) _
                  have i45 : ¬ c0.toInt = 95 := fun q => c45 (Int32.toInt_inj.mp q)
                  refine own_st (fun t_ k_ => XS.iloadN X0.here hx rfl (hb hby d21_48) rfl k_) ?_
                  show own_Go p e below s₁ (mkF m 49 #[.val (.int c0)] [(.int c0)]) _
                  refine own_st (fun t_ k_ => XS.bipush X0.here hx rfl (hb hby d21_49) k_) ?_
                  show own_Go p e below s₁ (mkF m 51 #[.val (.int c0)] [(.int (46 : Int32)), (.int c0)]) _
                  by_cases c51 : c0 = (46 : Int32)
                  · skip
                    refine own_st (fun t_ k_ => XS.icmpNo X0.here hx rfl (hb hby d21_51) rfl (teq c51).2 k_) ?_
                    show own_Go p e below s₁ (mkF m 54 #[.val (.int c0)] []) _
                    have i51 : c0.toInt = 46 := by rw [c51]; rfl
                    refine own_st (fun t_ k_ => XS.iconst X0.here hx rfl (hb hby d21_54) k_) ?_
                    show own_Go p e below s₁ (mkF m 55 #[.val (.int c0)] [(.int (1 : Int32))]) _
                    refine own_st (fun t_ k_ => XS.goto X0.here hx rfl (pc0 := 55) (pc' := 59) rfl (hb hby d21_55) (by decide) (by decide) k_) ?_
                    show own_Go p e below s₁ (mkF m 59 #[.val (.int c0)] [(.int (1 : Int32))]) _
                    obtain ⟨fs, hr, hrun, hended, hW, hsame⟩ := X0.leave (v := some (.int (1 : Int32))) (fun h => by rw [Bd.returns] at h; cases h)
                    refine own_fin (retN X0 hx (t := .boolean) Bd.returns (by simp) (hb hby d21_59) hr) ⟨hrun, hended, _, _, rfl, ?_, ⟨_, rfl⟩, hW, hsame.mono (by decide) (by decide)⟩
                    show Q_rmIa Z c0 h0 n0 _ s₁.heap _
                    rw [e0]
                    exact ⟨rfl, N0, rfl⟩
                  · skip
                    refine own_st (fun t_ k_ => XS.icmpYes X0.here hx rfl (pc0 := 51) (pc' := 58) rfl (hb hby d21_51) rfl (feq c51).2 (by decide) (by decide) k_) ?_
                    show own_Go p e below s₁ (mkF m 58 #[.val (.int c0)] []) _
                    have i51 : ¬ c0.toInt = 46 := fun q => c51 (Int32.toInt_inj.mp q)
                    refine own_st (fun t_ k_ => XS.iconst X0.here hx rfl (hb hby d21_58) k_) ?_
                    show own_Go p e below s₁ (mkF m 59 #[.val (.int c0)] [(.int (0 : Int32))]) _
                    exfalso
                    unfold own_al at hal
                    omega
            · skip
              refine own_st (fun t_ k_ => XS.icmpYes X0.here hx rfl (pc0 := 33) (pc' := 54) rfl (hb hby d21_33) rfl (flt c33).2.2.2 (by decide) (by decide) k_) ?_
              show own_Go p e below s₁ (mkF m 54 #[.val (.int c0)] []) _
              have i33 := c33
              rw [Int32.lt_iff_toInt_lt] at i33
              refine own_st (fun t_ k_ => XS.iconst X0.here hx rfl (hb hby d21_54) k_) ?_
              show own_Go p e below s₁ (mkF m 55 #[.val (.int c0)] [(.int (1 : Int32))]) _
              refine own_st (fun t_ k_ => XS.goto X0.here hx rfl (pc0 := 55) (pc' := 59) rfl (hb hby d21_55) (by decide) (by decide) k_) ?_
              show own_Go p e below s₁ (mkF m 59 #[.val (.int c0)] [(.int (1 : Int32))]) _
              obtain ⟨fs, hr, hrun, hended, hW, hsame⟩ := X0.leave (v := some (.int (1 : Int32))) (fun h => by rw [Bd.returns] at h; cases h)
              refine own_fin (retN X0 hx (t := .boolean) Bd.returns (by simp) (hb hby d21_59) hr) ⟨hrun, hended, _, _, rfl, ?_, ⟨_, rfl⟩, hW, hsame.mono (by decide) (by decide)⟩
              show Q_rmIa Z c0 h0 n0 _ s₁.heap _
              rw [e0]
              exact ⟨rfl, N0, rfl⟩
        · skip
          refine own_st (fun t_ k_ => XS.icmpYes X0.here hx rfl (pc0 := 21) (pc' := 54) rfl (hb hby d21_21) rfl (flt c21).2.2.2 (by decide) (by decide) k_) ?_
          show own_Go p e below s₁ (mkF m 54 #[.val (.int c0)] []) _
          have i21 := c21
          rw [Int32.lt_iff_toInt_lt] at i21
          refine own_st (fun t_ k_ => XS.iconst X0.here hx rfl (hb hby d21_54) k_) ?_
          show own_Go p e below s₁ (mkF m 55 #[.val (.int c0)] [(.int (1 : Int32))]) _
          refine own_st (fun t_ k_ => XS.goto X0.here hx rfl (pc0 := 55) (pc' := 59) rfl (hb hby d21_55) (by decide) (by decide) k_) ?_
          show own_Go p e below s₁ (mkF m 59 #[.val (.int c0)] [(.int (1 : Int32))]) _
          obtain ⟨fs, hr, hrun, hended, hW, hsame⟩ := X0.leave (v := some (.int (1 : Int32))) (fun h => by rw [Bd.returns] at h; cases h)
          refine own_fin (retN X0 hx (t := .boolean) Bd.returns (by simp) (hb hby d21_59) hr) ⟨hrun, hended, _, _, rfl, ?_, ⟨_, rfl⟩, hW, hsame.mono (by decide) (by decide)⟩
          show Q_rmIa Z c0 h0 n0 _ s₁.heap _
          rw [e0]
          exact ⟨rfl, N0, rfl⟩
    · skip
      refine own_st (fun t_ k_ => XS.icmpYes X0.here hx rfl (pc0 := 9) (pc' := 54) rfl (hb hby d21_9) rfl (flt c9).2.2.2 (by decide) (by decide) k_) ?_
      show own_Go p e below s₁ (mkF m 54 #[.val (.int c0)] []) _
      have i9 := c9
      rw [Int32.lt_iff_toInt_lt] at i9
      refine own_st (fun t_ k_ => XS.iconst X0.here hx rfl (hb hby d21_54) k_) ?_
      show own_Go p e below s₁ (mkF m 55 #[.val (.int c0)] [(.int (1 : Int32))]) _
      refine own_st (fun t_ k_ => XS.goto X0.here hx rfl (pc0 := 55) (pc' := 59) rfl (hb hby d21_55) (by decide) (by decide) k_) ?_
      show own_Go p e below s₁ (mkF m 59 #[.val (.int c0)] [(.int (1 : Int32))]) _
      obtain ⟨fs, hr, hrun, hended, hW, hsame⟩ := X0.leave (v := some (.int (1 : Int32))) (fun h => by rw [Bd.returns] at h; cases h)
      refine own_fin (retN X0 hx (t := .boolean) Bd.returns (by simp) (hb hby d21_59) hr) ⟨hrun, hended, _, _, rfl, ?_, ⟨_, rfl⟩, hW, hsame.mono (by decide) (by decide)⟩
      show Q_rmIa Z c0 h0 n0 _ s₁.heap _
      rw [e0]
      exact ⟨rfl, N0, rfl⟩
theorem d13_0 : decode jdk_31_method_11_code 0 = .ok (.aload_n 0, 1) := by decide +kernel
theorem d13_1 : decode jdk_31_method_11_code 1 = .ok (.ifnonnull 12, 3) := by decide +kernel
theorem d13_13 : decode jdk_31_method_11_code 13 = .ok (.aload_n 0, 1) := by decide +kernel
theorem d13_14 : decode jdk_31_method_11_code 14 = .ok (.areturn, 1) := by decide +kernel
theorem pn_13 : plainName "java/util/Objects" = true := by first | (simp [plainName, overriddenIn]; done) | decide +kernel
theorem ef_rmRn (m : MethodId) (x0 : Addr) (x1 : Addr) : entryFrame m #[(.ref x0), (.ref x1)] 2 = mkF m 0 #[.val (.ref x0), .val (.ref x1)] [] := by first | (simp [entryFrame, mkF, argsToLocals, Value.category]; done) | rfl
def Q_rmRn (Z : State) (a1 : Addr) (a2 : Addr) (h0 : Heap) (n0 : Nat) (v : Option Value) (h : Heap) (L : List Loc) : Prop := v = some (.ref a1) ∧ Fr n0 L ∧ h = h0
set_option maxRecDepth 65536 in
set_option maxHeartbeats 40000000 in
theorem rmRn (l : Launch) (Z : State) (a0 : Array Value) (hw : ∀ d ∈ tables_1, d.before a0 Z = true) (ws : List Jvm.Cond) (a1 : Addr) (a2 : Addr) (h0 : Heap) (n0 : Nat) (Z0 : n0 ≤ h0.size) :
    MetFree l (⟨"java/util/Objects", "requireNonNull", "(Ljava/lang/Object;Ljava/lang/String;)Ljava/lang/Object;"⟩ : MethodName) (head1 (Jvm.Cond.code (⟨"java/util/Objects", "requireNonNull", "(Ljava/lang/Object;Ljava/lang/String;)Ljava/lang/Object;"⟩ : MethodName) jdk_31_method_11_code 2 (some (.object "java/lang/Object")) :: ws) ({ frames := 0, cells := 0, slots := 0, locals := 0 } : Room)) (fun a U => a = #[(.ref a1), (.ref a2)] ∧ Z.Warmed39 U.vm ∧ U.heap = h0) (fun _ _ _ _ _ => True) (fun _ U o U' => ∃ v L, o = .returned v ∧ Q_rmRn Z a1 a2 h0 n0 v U'.heap L ∧ FrameEnd U o U' L ({ frames := 0, cells := 0, slots := 0, locals := 0 } : Room).cells ({ frames := 0, cells := 0, slots := 0, locals := 0 } : Room).slots) := by
  refine MetFree.of_bodySF (plainFor_of_name pn_13) hisR ?_
  intro p e s m args below meth c s₁ Bd hml0 hP hK
  obtain ⟨rfl, hZ, hh⟩ := hP
  have hx := Bd.exec
  have hby := Bd.bytes
  have hml : c.maxLocals = 2 := hml0
  have hown : s.vm.findClass "java/util/Objects" = some m.cls := findClass_of_methodNamed Bd.named
  have hnm := (name_of_methodNamed Bd.named Bd.method).1
  have X0 : Stand p l e ({ frames := 0, cells := 0, slots := 0, locals := 0 } : Room) s m #[(.ref a1), (.ref a2)] below meth c s₁ [] 0 0 := Stand.of_body Bd
  have e0 : s₁.heap = h0 := by rw [← hh, Bd.state]; rfl
  have N0 := Fr.nil n0
  refine own_enter (ef_rmRn m a1 a2) ?_
  refine own_st (fun t_ k_ => XS.aloadN X0.here hx rfl (hb hby d13_0) rfl rfl k_) ?_
  show own_Go p e below s₁ (mkF m 1 #[.val (.ref a1), .val (.ref a2)] [(.ref a1)]) _
  refine own_st (fun t_ k_ => XS.ifnonnullYes X0.here hx rfl (pc0 := 1) (pc' := 13) rfl (hb hby d13_1) rfl (by decide) (by decide) k_) ?_
  show own_Go p e below s₁ (mkF m 13 #[.val (.ref a1), .val (.ref a2)] []) _
  refine own_st (fun t_ k_ => XS.aloadN X0.here hx rfl (hb hby d13_13) rfl rfl k_) ?_
  show own_Go p e below s₁ (mkF m 14 #[.val (.ref a1), .val (.ref a2)] [(.ref a1)]) _
  obtain ⟨fs, hr, hrun, hended, hW, hsame⟩ := X0.leave (v := some (.ref a1)) (fun h => by rw [Bd.returns] at h; cases h)
  refine own_fin (own_retR X0 hx rfl Bd.returns rfl (hb hby d13_14) hr) ⟨hrun, hended, _, _, rfl, ?_, ⟨_, rfl⟩, hW, hsame.mono (by decide) (by decide)⟩
  show Q_rmRn Z a1 a2 h0 n0 _ s₁.heap _
  rw [e0]
  exact ⟨rfl, N0, rfl⟩
theorem d23_0 : decode prog_2_method_1_code 0 = .ok (.aload_n 0, 1) := by decide +kernel
theorem d23_1 : decode prog_2_method_1_code 1 = .ok (.invokespecial 1, 3) := by decide +kernel
theorem d23_4 : decode prog_2_method_1_code 4 = .ok (.aload_n 0, 1) := by decide +kernel
theorem d23_5 : decode prog_2_method_1_code 5 = .ok (.aload_n 1, 1) := by decide +kernel
theorem d23_6 : decode prog_2_method_1_code 6 = .ok (.putfield 7, 3) := by decide +kernel
theorem d23_9 : decode prog_2_method_1_code 9 = .ok (.return_, 1) := by decide +kernel
theorem pn_23 : plainName "com/example/faithful_courier/faithfulcourier/core/Name" = true := by first | (simp [plainName, overriddenIn]; done) | decide +kernel
theorem ef_rmNi (m : MethodId) (x0 : Addr) (x1 : Addr) : entryFrame m #[(.ref x0), (.ref x1)] 2 = mkF m 0 #[.val (.ref x0), .val (.ref x1)] [] := by first | (simp [entryFrame, mkF, argsToLocals, Value.category]; done) | rfl
def Q_rmNi (Z : State) (a1 : Addr) (a2 : Addr) (u1 : Value) (h0 : Heap) (n0 : Nat) (v : Option Value) (h : Heap) (L : List Loc) : Prop := v = none ∧ Fr n0 L ∧ Keep h0 h [a1] ∧ Exa Z h a1 "com/example/faithful_courier/faithfulcourier/core/Name" ∧ Fld Z h a1 "com/example/faithful_courier/faithfulcourier/core/Name" "text" "Ljava/lang/String;" (.ref a2)
set_option maxRecDepth 65536 in
set_option maxHeartbeats 40000000 in
theorem rmNi (l : Launch) (Z : State) (a0 : Array Value) (hw : ∀ d ∈ tables_1, d.before a0 Z = true) (ws : List Jvm.Cond) (a1 : Addr) (a2 : Addr) (u1 : Value) (h0 : Heap) (n0 : Nat) (Z0 : n0 ≤ h0.size) (pE_a1 : Exa Z h0 a1 "com/example/faithful_courier/faithfulcourier/core/Name") (pF_text_a1 : Fld Z h0 a1 "com/example/faithful_courier/faithfulcourier/core/Name" "text" "Ljava/lang/String;" u1) (pG_a1 : n0 ≤ a1) :
    MetFree l (⟨"com/example/faithful_courier/faithfulcourier/core/Name", "<init>", "(Ljava/lang/String;)V"⟩ : MethodName) (head1 (Jvm.Cond.code (⟨"com/example/faithful_courier/faithfulcourier/core/Name", "<init>", "(Ljava/lang/String;)V"⟩ : MethodName) prog_2_method_1_code 2 none :: ws) ({ frames := 1, cells := 0, slots := 0, locals := 12 } : Room)) (fun a U => a = #[(.ref a1), (.ref a2)] ∧ Z.Warmed39 U.vm ∧ U.heap = h0) (fun _ _ _ _ _ => True) (fun _ U o U' => ∃ v L, o = .returned v ∧ Q_rmNi Z a1 a2 u1 h0 n0 v U'.heap L ∧ FrameEnd U o U' L ({ frames := 1, cells := 0, slots := 0, locals := 12 } : Room).cells ({ frames := 1, cells := 0, slots := 0, locals := 12 } : Room).slots) := by
  refine MetFree.of_bodySF (plainFor_of_name pn_23) hisR ?_
  intro p e s m args below meth c s₁ Bd hml0 hP hK
  obtain ⟨rfl, hZ, hh⟩ := hP
  have hx := Bd.exec
  have hby := Bd.bytes
  have hml : c.maxLocals = 2 := hml0
  have hown : s.vm.findClass "com/example/faithful_courier/faithfulcourier/core/Name" = some m.cls := findClass_of_methodNamed Bd.named
  have hnm := (name_of_methodNamed Bd.named Bd.method).1
  have X0 : Stand p l e ({ frames := 1, cells := 0, slots := 0, locals := 12 } : Room) s m #[(.ref a1), (.ref a2)] below meth c s₁ [] 0 0 := Stand.of_body Bd
  have e0 : s₁.heap = h0 := by rw [← hh, Bd.state]; rfl
  have N0 := Fr.nil n0
  refine own_enter (ef_rmNi m a1 a2) ?_
  refine own_st (fun t_ k_ => XS.aloadN X0.here hx rfl (hb hby d23_0) rfl rfl k_) ?_
  show own_Go p e below s₁ (mkF m 1 #[.val (.ref a1), .val (.ref a2)] [(.ref a1)]) _
  obtain ⟨T1, X1, e1, st1⟩ := initO X0 hx hZ hown (hw _ (List.mem_of_getElem? (i := 104) rfl)) (hw _ (List.mem_of_getElem? (i := 17) rfl)) (hw _ (List.mem_of_getElem? (i := 18) rfl)) e0 (g := (mkF m 1 #[.val (.ref a1), .val (.ref a2)] [(.ref a1)])) rfl (by rw [hml]; rfl) rfl (hb hby d23_1) (by decide) (W := 0) (by show 2 * 0 + _ ≤ _; exact Nat.le_of_eq rfl) (by decide)
  refine own_st st1 ?_
  show own_Go p e below T1 (mkF m 4 #[.val (.ref a1), .val (.ref a2)] []) _
  refine own_st (fun t_ k_ => XS.aloadN X1.here hx rfl (hb hby d23_4) rfl rfl k_) ?_
  show own_Go p e below T1 (mkF m 5 #[.val (.ref a1), .val (.ref a2)] [(.ref a1)]) _
  refine own_st (fun t_ k_ => XS.aloadN X1.here hx rfl (hb hby d23_5) rfl rfl k_) ?_
  show own_Go p e below T1 (mkF m 6 #[.val (.ref a1), .val (.ref a2)] [(.ref a2), (.ref a1)]) _
  obtain ⟨T2, h2, X2, e2, W2, st2⟩ := putF X1 hx hZ hown (host := "") (Or.inl (hw _ (List.mem_of_getElem? (i := 105) rfl))) Via.refl e1 pF_text_a1 pE_a1 (Or.inr ⟨(hw _ (List.mem_of_getElem? (i := 106) rfl)), rfl, hnm⟩) (hw _ (List.mem_of_getElem? (i := 100) rfl)) (ty := (.object "java/lang/String")) (by decide) rfl rfl (g := (mkF m 6 #[.val (.ref a1), .val (.ref a2)] [(.ref a2), (.ref a1)])) rfl rfl (hb hby d23_6)
  have F2 := pF_text_a1.same W2
  have K3 : Keep h0 h2 [a1] := (Keep.refl h0 [a1]).wr W2 (Or.inl (List.mem_of_getElem? (i := 0) rfl))
  have N2 := Fr.snoc X2 N0 pG_a1
  refine own_st st2 ?_
  show own_Go p e below T2 (mkF m 9 #[.val (.ref a1), .val (.ref a2)] []) _
  have f4 := (pE_a1.wr W2)
  obtain ⟨fs, hr, hrun, hended, hW, hsame⟩ := X2.leave (v := none) (fun _ => rfl)
  refine own_fin (X2.returnOut hx Bd.returns (hb hby d23_9) hr) ⟨hrun, hended, _, _, rfl, ?_, ⟨_, rfl⟩, hW, hsame.mono (by decide) (by decide)⟩
  show Q_rmNi Z a1 a2 u1 h0 n0 _ T2.heap _
  rw [e2]
  exact ⟨rfl, N2, K3, f4, F2⟩
theorem d12_0 : decode prog_2_method_2_code 0 = .ok (.aload_n 0, 1) := by decide +kernel
theorem d12_1 : decode prog_2_method_2_code 1 = .ok (.ldc 13, 2) := by decide +kernel
theorem d12_3 : decode prog_2_method_2_code 3 = .ok (.invokestatic 14, 3) := by decide +kernel
theorem d12_6 : decode prog_2_method_2_code 6 = .ok (.pop, 1) := by decide +kernel
theorem d12_7 : decode prog_2_method_2_code 7 = .ok (.iconst 0, 1) := by decide +kernel
theorem d12_8 : decode prog_2_method_2_code 8 = .ok (.istore_n 1, 1) := by decide +kernel
theorem d12_9 : decode prog_2_method_2_code 9 = .ok (.iload_n 1, 1) := by decide +kernel
theorem d12_10 : decode prog_2_method_2_code 10 = .ok (.aload_n 0, 1) := by decide +kernel
theorem d12_11 : decode prog_2_method_2_code 11 = .ok (.invokevirtual 20, 3) := by decide +kernel
theorem d12_14 : decode prog_2_method_2_code 14 = .ok (.if_icmp .ge 60, 3) := by decide +kernel
theorem d12_17 : decode prog_2_method_2_code 17 = .ok (.aload_n 0, 1) := by decide +kernel
theorem d12_18 : decode prog_2_method_2_code 18 = .ok (.iload_n 1, 1) := by decide +kernel
theorem d12_19 : decode prog_2_method_2_code 19 = .ok (.invokevirtual 26, 3) := by decide +kernel
theorem d12_22 : decode prog_2_method_2_code 22 = .ok (.invokestatic 30, 3) := by decide +kernel
theorem d12_25 : decode prog_2_method_2_code 25 = .ok (.ifCond .ne 43, 3) := by decide +kernel
theorem d12_68 : decode prog_2_method_2_code 68 = .ok (.iinc 1 1, 3) := by decide +kernel
theorem d12_71 : decode prog_2_method_2_code 71 = .ok (.goto (-62), 3) := by decide +kernel
theorem d12_74 : decode prog_2_method_2_code 74 = .ok (.aload_n 0, 1) := by decide +kernel
theorem d12_75 : decode prog_2_method_2_code 75 = .ok (.invokevirtual 61, 3) := by decide +kernel
theorem d12_78 : decode prog_2_method_2_code 78 = .ok (.ifCond .ne 12, 3) := by decide +kernel
theorem d12_81 : decode prog_2_method_2_code 81 = .ok (.aload_n 0, 1) := by decide +kernel
theorem d12_82 : decode prog_2_method_2_code 82 = .ok (.invokevirtual 20, 3) := by decide +kernel
theorem d12_85 : decode prog_2_method_2_code 85 = .ok (.bipush 64, 2) := by decide +kernel
theorem d12_87 : decode prog_2_method_2_code 87 = .ok (.if_icmp .le 41, 3) := by decide +kernel
theorem d12_128 : decode prog_2_method_2_code 128 = .ok (.new 8, 3) := by decide +kernel
theorem d12_131 : decode prog_2_method_2_code 131 = .ok (.dup, 1) := by decide +kernel
theorem d12_132 : decode prog_2_method_2_code 132 = .ok (.aload_n 0, 1) := by decide +kernel
theorem d12_133 : decode prog_2_method_2_code 133 = .ok (.invokespecial 67, 3) := by decide +kernel
theorem d12_136 : decode prog_2_method_2_code 136 = .ok (.areturn, 1) := by decide +kernel
theorem pn_12 : plainName "com/example/faithful_courier/faithfulcourier/core/Name" = true := by first | (simp [plainName, overriddenIn]; done) | decide +kernel
theorem pd__Ljava_lang_Object_Ljava_lang_String__Ljava_lang_Object_ : parseMethodDescriptor "(Ljava/lang/Object;Ljava/lang/String;)Ljava/lang/Object;" = some ⟨[(.object "java/lang/Object"), (.object "java/lang/String")], some (.object "java/lang/Object")⟩ := by decide +kernel
theorem pd___I : parseMethodDescriptor "()I" = some ⟨[], some .int⟩ := by decide +kernel
theorem pd__I_C : parseMethodDescriptor "(I)C" = some ⟨[.int], some .char⟩ := by decide +kernel
theorem pd__C_Z : parseMethodDescriptor "(C)Z" = some ⟨[.char], some .boolean⟩ := by decide +kernel
theorem pd___Z : parseMethodDescriptor "()Z" = some ⟨[], some .boolean⟩ := by decide +kernel
theorem pd__Ljava_lang_String__V : parseMethodDescriptor "(Ljava/lang/String;)V" = some ⟨[(.object "java/lang/String")], none⟩ := by decide +kernel
theorem ef_rmOf1 (m : MethodId) (x0 : Addr) : entryFrame m #[(.ref x0)] 2 = mkF m 0 #[.val (.ref x0), .unset] [] := by first | (simp [entryFrame, mkF, argsToLocals, Value.category]; done) | rfl
def Q_rmOf1 (Z : State) (x : Addr) (tx : Addr) (kx : ClassId) (c0 : Int32) (zc : Int32) (fm : Value) (h0 : Heap) (n0 : Nat) (v : Option Value) (h : Heap) (L : List Loc) : Prop := ∃ b : Addr, v = some (.ref b) ∧ Fr n0 L ∧ Keep h0 h [] ∧ Exa Z h b "com/example/faithful_courier/faithfulcourier/core/Name" ∧ Fld Z h b "com/example/faithful_courier/faithfulcourier/core/Name" "text" "Ljava/lang/String;" (.ref x) ∧ h0.size ≤ b ∧ n0 ≤ b
set_option maxRecDepth 65536 in
set_option maxHeartbeats 40000000 in
theorem rmOf1 (l : Launch) (Z : State) (a0 : Array Value) (hw : ∀ d ∈ tables_1, d.before a0 Z = true) (ws : List Jvm.Cond) (x : Addr) (tx : Addr) (kx : ClassId) (c0 : Int32) (zc : Int32) (fm : Value) (h0 : Heap) (n0 : Nat) (Z0 : n0 ≤ h0.size) (pE_x : Exa Z h0 x "java/lang/String") (pF_value_x : Fld Z h0 x "java/lang/String" "value" "[B" (.ref tx)) (pF_coder_x : Fld Z h0 x "java/lang/String" "coder" "B" (.int (0 : Int32))) (pV_tx : Arv Z h0 tx kx .byte (1 : Int32) ((([c0] : List Int32).map (fun c => c.toInt8.toInt32)).map Value.int) (.int 0)) (hp_x : (∀ c ∈ ([c0] : List Int32), ¬ c < 0 ∧ ¬ (255 : Int32) < c)) (al_c0 : (own_al c0)) (pS_COMPACT_STRINGS : Sta Z Z.heap "java/lang/String" "COMPACT_STRINGS" "Z" (.int zc)) (pP5 : (¬ (zc = (0 : Int32)))) (pS_SIOOBE_FORMATTER : Sta Z Z.heap "jdk/internal/util/Preconditions" "SIOOBE_FORMATTER" "Ljava/util/function/BiFunction;" fm) (rfm : (fm.isRef = true)) (pO : Old Z n0 h0) :
    MetFree l (⟨"com/example/faithful_courier/faithfulcourier/core/Name", "of", "(Ljava/lang/String;)Lcom/example/faithful_courier/faithfulcourier/core/Name;"⟩ : MethodName) (head1 (Jvm.Cond.code (⟨"com/example/faithful_courier/faithfulcourier/core/Name", "of", "(Ljava/lang/String;)Lcom/example/faithful_courier/faithfulcourier/core/Name;"⟩ : MethodName) prog_2_method_2_code 2 (some (.object "com/example/faithful_courier/faithfulcourier/core/Name")) :: ws) ({ frames := 4, cells := 3, slots := 21, locals := 53 } : Room)) (fun a U => a = #[(.ref x)] ∧ Z.Warmed39 U.vm ∧ U.heap = h0 ∧ CHv Z own_EL U.vm h0) (fun _ _ _ _ _ => True) (fun _ U o U' => ∃ v L, o = .returned v ∧ Q_rmOf1 Z x tx kx c0 zc fm h0 n0 v U'.heap L ∧ CHr Z own_EL U.vm U.heap U'.vm U'.heap ∧ ReturnedEndW U o U' L ({ frames := 4, cells := 3, slots := 21, locals := 53 } : Room).cells ({ frames := 4, cells := 3, slots := 21, locals := 53 } : Room).slots) := by
  refine MetFree.of_bodySF (plainFor_of_name pn_12) hisR ?_
  intro p e s m args below meth c s₁ Bd hml0 hP hK
  obtain ⟨rfl, hZ, hh, hCH⟩ := hP
  have hx := Bd.exec
  have hby := Bd.bytes
  have hml : c.maxLocals = 2 := hml0
  have hown : s.vm.findClass "com/example/faithful_courier/faithfulcourier/core/Name" = some m.cls := findClass_of_methodNamed Bd.named
  have hnm := (name_of_methodNamed Bd.named Bd.method).1
  have X0 : Stand p l e ({ frames := 4, cells := 3, slots := 21, locals := 53 } : Room) (s.setVm s.vm) m #[(.ref x)] below meth c s₁ [] 0 0 := Stand.of_body Bd
  have e0 : s₁.heap = h0 := by rw [← hh, Bd.state]; rfl
  have N0 := Fr.nil n0
  have hEL := own_EW hw
  have hCR := CHr.refl hCH
  have hS : s.Since s.vm h0.size := (State.WarmedH.refl s).since _
  have hK0 : h0.size ≤ h0.size := Nat.le_refl _
  refine own_enter (ef_rmOf1 m x) ?_
  have hln : ∀ d ∈ StrChars.Road.wordsLen, d.before a0 Z = true := fun d hd => hw d ((by decide +kernel : ∀ d ∈ StrChars.Road.wordsLen, d ∈ tables_1) d hd)
  have hch : ∀ d ∈ StrChars.Road.wordsChN, d.before a0 Z = true := fun d hd => hw d ((by decide +kernel : ∀ d ∈ StrChars.Road.wordsChN, d ∈ tables_1) d hd)
  have hem : ∀ d ∈ StrChars.Road.wordsEmp, d.before a0 Z = true := fun d hd => hw d ((by decide +kernel : ∀ d ∈ StrChars.Road.wordsEmp, d ∈ tables_1) d hd)
  refine own_st (fun t_ k_ => XS.aloadN X0.here hx rfl (hb hby d12_0) rfl rfl k_) ?_
  show own_Go p e below s₁ (mkF m 1 #[.val (.ref x), .unset] [(.ref x)]) _
  obtain ⟨b1, T1, h1, k1, X1, e1, E1, hS, hk1, hZ, hown, A1, -, st1⟩ := ldcOH X0 hx hZ hown (hw _ (List.mem_of_getElem? (i := 53) rfl)) (own_wS hw) e0 hS hK0 hEL hCH (g := (mkF m 1 #[.val (.ref x), .unset] [(.ref x)])) rfl (hb hby d12_1) (n := 16) (by decide) (by decide) (by decide) (by decide)
  have CH2 := A1.1
  have CR2 := CHr.trans hCR (A1)
  have K3 : Keep h0 h1 [] := (Keep.refl h0 []).ext E1
  refine own_st st1 ?_
  show own_Go p e below T1 (mkF m 3 #[.val (.ref x), .unset] [(.ref b1), (.ref x)]) _
  have f4 := (Nat.le_trans Z0 E1.1)
  obtain ⟨_, _, ⟨T5, L5, k5, n5⟩, -, X5, ⟨Lc5, hQ5, l5, y5, z5⟩, st5⟩ := Jvm.LawKit.callS X1 hx (y := (⟨"java/util/Objects", "requireNonNull", "(Ljava/lang/Object;Ljava/lang/String;)Ljava/lang/Object;"⟩ : MethodName)) hown (mvT hZ (hw _ (List.mem_of_getElem? (i := 56) rfl))) (mvT hZ (hw _ (List.mem_of_getElem? (i := 57) rfl))) (mvT hZ (hw _ (List.mem_of_getElem? (i := 58) rfl))) (mvT hZ (hw _ (List.mem_of_getElem? (i := 59) rfl))) (by decide) (backOf (W := 0) (rmRn l Z a0 hw [] x b1 h1 n0 f4 ) hZ (hw _ (List.mem_of_getElem? (i := 59) rfl)) (hw _ (List.mem_of_getElem? (i := 58) rfl)) (by decide) (by decide)) (g := (mkF m 3 #[.val (.ref x), .unset] [(.ref b1), (.ref x)])) rfl (by rw [hml]; rfl) (argsL := [(.ref x), (.ref b1)]) (rest := []) (lenOf pd__Ljava_lang_Object_Ljava_lang_String__Ljava_lang_Object_ rfl) rfl (by show 2 * 0 + _ ≤ _; exact Nat.le_of_eq rfl) (hb hby d12_3) (fun _ _ => ⟨rfl, e1, (by decide : 2 + 0 ≤ _), (by decide : 20 + 0 ≤ _)⟩)
  dsimp only [Pt.U, Pt.locs, Pt.cells, Pt.slots] at X5 l5 y5 z5 st5 hQ5
  try dsimp only [Nat.reduceAdd] at y5 z5
  rw [l5, y5, z5] at X5
  obtain ⟨rfl, Nq5, eH5⟩ := hQ5
  have N5 := Fr.app N0 Nq5
  refine own_st st5 ?_
  show own_Go p e below T5 (mkF m 6 #[.val (.ref x), .unset] [(.ref x)]) _
  refine own_st (fun t_ k_ => XS.pop X5.here hx rfl (hb hby d12_6) rfl rfl k_) ?_
  show own_Go p e below T5 (mkF m 7 #[.val (.ref x), .unset] []) _
  refine own_st (fun t_ k_ => XS.iconst X5.here hx rfl (hb hby d12_7) k_) ?_
  show own_Go p e below T5 (mkF m 8 #[.val (.ref x), .unset] [(.int (0 : Int32))]) _
  refine own_st (fun t_ k_ => XS.istoreN X5.here hx rfl (hb hby d12_8) rfl (l' := #[.val (.ref x), .val (.int (0 : Int32))]) rfl k_) ?_
  show own_Go p e below T5 (mkF m 9 #[.val (.ref x), .val (.int (0 : Int32))] []) _
  refine own_st (fun t_ k_ => XS.iloadN X5.here hx rfl (hb hby d12_9) rfl k_) ?_
  show own_Go p e below T5 (mkF m 10 #[.val (.ref x), .val (.int (0 : Int32))] [(.int (0 : Int32))]) _
  refine own_st (fun t_ k_ => XS.aloadN X5.here hx rfl (hb hby d12_10) rfl rfl k_) ?_
  show own_Go p e below T5 (mkF m 11 #[.val (.ref x), .val (.int (0 : Int32))] [(.ref x), (.int (0 : Int32))]) _
  have hcd6 : StrChars.Road.CodA ([c0] : List Int32) 0 (1 : Int32) ((([c0] : List Int32).map (fun c => c.toInt8.toInt32)).map Value.int) := StrChars.Road.codOf rfl (fun x hx => (hp_x x hx).2)
  have hbd6 : ∀ x ∈ ([c0] : List Int32), ¬ x < 0 ∧ ¬ (65535 : Int32) < x := own_up _ hp_x
  have f7 := (pE_x.ext E1)
  have f8 := (pF_value_x.ext E1)
  have f9 := (pF_coder_x.ext E1)
  have f10 := (pV_tx.ext E1)
  have f11 := (pO.ext E1)
  obtain ⟨cq12, kq12, qa12, qb12, qc12⟩ := isOf hZ eH5 f7
  obtain ⟨_, _, ⟨T12, L12, k12, n12⟩, -, X12, ⟨Lc12, hQ12, l12, y12, z12⟩, st12⟩ := X5.virtualBack hx (y := (⟨"java/lang/String", "length", "()I"⟩ : MethodName)) (z := (⟨"java/lang/String", "length", "()I"⟩ : MethodName)) hown (mvT hZ (hw _ (List.mem_of_getElem? (i := 60) rfl))) (mvT hZ (hw _ (List.mem_of_getElem? (i := 61) rfl))) (notFace_of_selects (args := #[]) (mvT hZ (hw _ (List.mem_of_getElem? (i := 63) rfl)))) (mvT hZ (hw _ (List.mem_of_getElem? (i := 63) rfl))) (mvT hZ (hw _ (List.mem_of_getElem? (i := 62) rfl))) (by decide) (StrChars.Road.lenW (W := 1) hZ hln (kI := 4) (hw _ (List.mem_of_getElem? (i := 7) rfl)) f7 f8 f9 f10 hcd6 hbd6 (pS_COMPACT_STRINGS.ext f11.2) pP5 (Nat.le_of_ble_eq_true rfl) (by decide) (by decide)) qa12 qc12 (g := (mkF m 11 #[.val (.ref x), .val (.int (0 : Int32))] [(.ref x), (.int (0 : Int32))])) rfl (by rw [hml]; rfl) (Steps.refl _) (argsL := []) (rest := [(.int (0 : Int32))]) (lenOf pd___I rfl) rfl (by show 2 * 0 + _ ≤ _; exact Nat.le_of_eq rfl) (hb hby d12_11) (fun _ _ => ⟨rfl, eH5, (by decide : 2 + 0 ≤ _), (by decide : 20 + 0 ≤ _)⟩)
  dsimp only [Pt.U, Pt.locs, Pt.cells, Pt.slots] at X12 l12 y12 z12 st12 hQ12
  try dsimp only [Nat.reduceAdd] at y12 z12
  rw [l12, y12, z12] at X12
  obtain ⟨rfl, rfl, eH12⟩ := hQ12
  have N12 := Fr.app N5 (Fr.nil n0)
  refine own_tr st12 ?_
  show own_Go p e below T12 (mkF m 14 #[.val (.ref x), .val (.int (0 : Int32))] [(.int (1 : Int32)), (.int (0 : Int32))]) _
  refine own_st (fun t_ k_ => XS.icmpNo X12.here hx rfl (hb hby d12_14) rfl (by decide) k_) ?_
  show own_Go p e below T12 (mkF m 17 #[.val (.ref x), .val (.int (0 : Int32))] []) _
  refine own_st (fun t_ k_ => XS.aloadN X12.here hx rfl (hb hby d12_17) rfl rfl k_) ?_
  show own_Go p e below T12 (mkF m 18 #[.val (.ref x), .val (.int (0 : Int32))] [(.ref x)]) _
  refine own_st (fun t_ k_ => XS.iloadN X12.here hx rfl (hb hby d12_18) rfl k_) ?_
  show own_Go p e below T12 (mkF m 19 #[.val (.ref x), .val (.int (0 : Int32))] [(.int (0 : Int32)), (.ref x)]) _
  obtain ⟨cq13, kq13, qa13, qb13, qc13⟩ := isOf hZ eH12 f7
  obtain ⟨_, _, ⟨T13, L13, k13, n13⟩, -, X13, ⟨Lc13, hQ13, l13, y13, z13⟩, st13⟩ := X12.virtualBack hx (y := (⟨"java/lang/String", "charAt", "(I)C"⟩ : MethodName)) (z := (⟨"java/lang/String", "charAt", "(I)C"⟩ : MethodName)) hown (mvT hZ (hw _ (List.mem_of_getElem? (i := 70) rfl))) (mvT hZ (hw _ (List.mem_of_getElem? (i := 71) rfl))) (notFace_of_selects (args := #[]) (mvT hZ (hw _ (List.mem_of_getElem? (i := 73) rfl)))) (mvT hZ (hw _ (List.mem_of_getElem? (i := 73) rfl))) (mvT hZ (hw _ (List.mem_of_getElem? (i := 72) rfl))) (by decide) (StrChars.Road.chN (W := 0) hZ hch (kI := 4) (hw _ (List.mem_of_getElem? (i := 7) rfl)) f7 f8 f9 f10 hcd6 hbd6 (pS_COMPACT_STRINGS.ext f11.2) pP5 (pS_SIOOBE_FORMATTER.ext f11.2) rfm (Nat.le_of_ble_eq_true rfl) (i := 0) (Nat.le_of_ble_eq_true rfl) (j := (0 : Int32)) rfl (by decide) (by decide)) qa13 qc13 (g := (mkF m 19 #[.val (.ref x), .val (.int (0 : Int32))] [(.int (0 : Int32)), (.ref x)])) rfl (by rw [hml]; rfl) (Steps.refl _) (argsL := [(.int (0 : Int32))]) (rest := []) (lenOf pd__I_C rfl) rfl (by show 2 * 0 + _ ≤ _; exact Nat.le_of_eq rfl) (hb hby d12_19) (fun _ _ => ⟨rfl, eH12, (by decide : 2 + 0 ≤ _), (by decide : 20 + 0 ≤ _)⟩)
  dsimp only [Pt.U, Pt.locs, Pt.cells, Pt.slots] at X13 l13 y13 z13 st13 hQ13
  try dsimp only [Nat.reduceAdd] at y13 z13
  rw [l13, y13, z13] at X13
  obtain ⟨rfl, rfl, eH13⟩ := hQ13
  have N13 := Fr.app N12 (Fr.nil n0)
  refine own_tr st13 ?_
  show own_Go p e below T13 (mkF m 22 #[.val (.ref x), .val (.int (0 : Int32))] [(.int c0)]) _
  obtain ⟨_, _, ⟨T14, L14, k14, n14⟩, -, X14, ⟨Lc14, hQ14, l14, y14, z14⟩, st14⟩ := Jvm.LawKit.callS X13 hx (y := (⟨"com/example/faithful_courier/faithfulcourier/core/Name", "isAllowed", "(C)Z"⟩ : MethodName)) hown (mvT hZ (hw _ (List.mem_of_getElem? (i := 91) rfl))) (mvT hZ (hw _ (List.mem_of_getElem? (i := 92) rfl))) (mvT hZ (hw _ (List.mem_of_getElem? (i := 51) rfl))) (mvT hZ (hw _ (List.mem_of_getElem? (i := 93) rfl))) (by decide) (backOf (W := 0) (rmIa l Z a0 hw [] c0 h1 n0 f4 al_c0) hZ (hw _ (List.mem_of_getElem? (i := 93) rfl)) (hw _ (List.mem_of_getElem? (i := 51) rfl)) (by decide) (by decide)) (g := (mkF m 22 #[.val (.ref x), .val (.int (0 : Int32))] [(.int c0)])) rfl (by rw [hml]; rfl) (argsL := [(.int c0)]) (rest := []) (lenOf pd__C_Z rfl) rfl (by show 2 * 0 + _ ≤ _; exact Nat.le_of_eq rfl) (hb hby d12_22) (fun _ _ => ⟨rfl, eH13, (by decide : 2 + 0 ≤ _), (by decide : 20 + 0 ≤ _)⟩)
  dsimp only [Pt.U, Pt.locs, Pt.cells, Pt.slots] at X14 l14 y14 z14 st14 hQ14
  try dsimp only [Nat.reduceAdd] at y14 z14
  rw [l14, y14, z14] at X14
  obtain ⟨rfl, Nq14, eH14⟩ := hQ14
  have N14 := Fr.app N13 Nq14
  refine own_st st14 ?_
  show own_Go p e below T14 (mkF m 25 #[.val (.ref x), .val (.int (0 : Int32))] [(.int (1 : Int32))]) _
  refine own_st (fun t_ k_ => XS.ifYes X14.here hx rfl (pc0 := 25) (pc' := 68) rfl (hb hby d12_25) rfl (by decide) (by decide) (by decide) k_) ?_
  show own_Go p e below T14 (mkF m 68 #[.val (.ref x), .val (.int (0 : Int32))] []) _
  refine own_st (fun t_ k_ => XS.iinc X14.here hx rfl (hb hby d12_68) rfl (l' := #[.val (.ref x), .val (.int (1 : Int32))]) rfl k_) ?_
  show own_Go p e below T14 (mkF m 71 #[.val (.ref x), .val (.int (1 : Int32))] []) _
  refine own_st (fun t_ k_ => XS.goto X14.here hx rfl (pc0 := 71) (pc' := 9) rfl (hb hby d12_71) (by decide) (by decide) k_) ?_
  show own_Go p e below T14 (mkF m 9 #[.val (.ref x), .val (.int (1 : Int32))] []) _
  refine own_st (fun t_ k_ => XS.iloadN X14.here hx rfl (hb hby d12_9) rfl k_) ?_
  show own_Go p e below T14 (mkF m 10 #[.val (.ref x), .val (.int (1 : Int32))] [(.int (1 : Int32))]) _
  refine own_st (fun t_ k_ => XS.aloadN X14.here hx rfl (hb hby d12_10) rfl rfl k_) ?_
  show own_Go p e below T14 (mkF m 11 #[.val (.ref x), .val (.int (1 : Int32))] [(.ref x), (.int (1 : Int32))]) _
  obtain ⟨cq15, kq15, qa15, qb15, qc15⟩ := isOf hZ eH14 f7
  obtain ⟨_, _, ⟨T15, L15, k15, n15⟩, -, X15, ⟨Lc15, hQ15, l15, y15, z15⟩, st15⟩ := X14.virtualBack hx (y := (⟨"java/lang/String", "length", "()I"⟩ : MethodName)) (z := (⟨"java/lang/String", "length", "()I"⟩ : MethodName)) hown (mvT hZ (hw _ (List.mem_of_getElem? (i := 60) rfl))) (mvT hZ (hw _ (List.mem_of_getElem? (i := 61) rfl))) (notFace_of_selects (args := #[]) (mvT hZ (hw _ (List.mem_of_getElem? (i := 63) rfl)))) (mvT hZ (hw _ (List.mem_of_getElem? (i := 63) rfl))) (mvT hZ (hw _ (List.mem_of_getElem? (i := 62) rfl))) (by decide) (StrChars.Road.lenW (W := 1) hZ hln (kI := 4) (hw _ (List.mem_of_getElem? (i := 7) rfl)) f7 f8 f9 f10 hcd6 hbd6 (pS_COMPACT_STRINGS.ext f11.2) pP5 (Nat.le_of_ble_eq_true rfl) (by decide) (by decide)) qa15 qc15 (g := (mkF m 11 #[.val (.ref x), .val (.int (1 : Int32))] [(.ref x), (.int (1 : Int32))])) rfl (by rw [hml]; rfl) (Steps.refl _) (argsL := []) (rest := [(.int (1 : Int32))]) (lenOf pd___I rfl) rfl (by show 2 * 0 + _ ≤ _; exact Nat.le_of_eq rfl) (hb hby d12_11) (fun _ _ => ⟨rfl, eH14, (by decide : 2 + 0 ≤ _), (by decide : 20 + 0 ≤ _)⟩)
  dsimp only [Pt.U, Pt.locs, Pt.cells, Pt.slots] at X15 l15 y15 z15 st15 hQ15
  try dsimp only [Nat.reduceAdd] at y15 z15
  rw [l15, y15, z15] at X15
  obtain ⟨rfl, rfl, eH15⟩ := hQ15
  have N15 := Fr.app N14 (Fr.nil n0)
  refine own_tr st15 ?_
  show own_Go p e below T15 (mkF m 14 #[.val (.ref x), .val (.int (1 : Int32))] [(.int (1 : Int32)), (.int (1 : Int32))]) _
  refine own_st (fun t_ k_ => XS.icmpYes X15.here hx rfl (pc0 := 14) (pc' := 74) rfl (hb hby d12_14) rfl (by decide) (by decide) (by decide) k_) ?_
  show own_Go p e below T15 (mkF m 74 #[.val (.ref x), .val (.int (1 : Int32))] []) _
  refine own_st (fun t_ k_ => XS.aloadN X15.here hx rfl (hb hby d12_74) rfl rfl k_) ?_
  show own_Go p e below T15 (mkF m 75 #[.val (.ref x), .val (.int (1 : Int32))] [(.ref x)]) _
  obtain ⟨cq16, kq16, qa16, qb16, qc16⟩ := isOf hZ eH15 f7
  obtain ⟨_, _, ⟨T16, L16, k16, n16⟩, -, X16, ⟨Lc16, hQ16, l16, y16, z16⟩, st16⟩ := X15.virtualBack hx (y := (⟨"java/lang/String", "isEmpty", "()Z"⟩ : MethodName)) (z := (⟨"java/lang/String", "isEmpty", "()Z"⟩ : MethodName)) hown (mvT hZ (hw _ (List.mem_of_getElem? (i := 94) rfl))) (mvT hZ (hw _ (List.mem_of_getElem? (i := 95) rfl))) (notFace_of_selects (args := #[]) (mvT hZ (hw _ (List.mem_of_getElem? (i := 97) rfl)))) (mvT hZ (hw _ (List.mem_of_getElem? (i := 97) rfl))) (mvT hZ (hw _ (List.mem_of_getElem? (i := 96) rfl))) (by decide) (StrChars.Road.empW (W := 0) hZ hem (kI := 4) (hw _ (List.mem_of_getElem? (i := 7) rfl)) f7 f8 f9 f10 hcd6 hbd6 (Nat.le_of_ble_eq_true rfl) (by decide) (by decide)) qa16 qc16 (g := (mkF m 75 #[.val (.ref x), .val (.int (1 : Int32))] [(.ref x)])) rfl (by rw [hml]; rfl) (Steps.refl _) (argsL := []) (rest := []) (lenOf pd___Z rfl) rfl (by show 2 * 0 + _ ≤ _; exact Nat.le_of_eq rfl) (hb hby d12_75) (fun _ _ => ⟨rfl, eH15, (by decide : 2 + 0 ≤ _), (by decide : 20 + 0 ≤ _)⟩)
  dsimp only [Pt.U, Pt.locs, Pt.cells, Pt.slots] at X16 l16 y16 z16 st16 hQ16
  try dsimp only [Nat.reduceAdd] at y16 z16
  rw [l16, y16, z16] at X16
  obtain ⟨rfl, rfl, eH16⟩ := hQ16
  have N16 := Fr.app N15 (Fr.nil n0)
  refine own_tr st16 ?_
  show own_Go p e below T16 (mkF m 78 #[.val (.ref x), .val (.int (1 : Int32))] [(.int (0 : Int32))]) _
  refine own_st (fun t_ k_ => XS.ifNo X16.here hx rfl (hb hby d12_78) rfl (by decide) k_) ?_
  show own_Go p e below T16 (mkF m 81 #[.val (.ref x), .val (.int (1 : Int32))] []) _
  refine own_st (fun t_ k_ => XS.aloadN X16.here hx rfl (hb hby d12_81) rfl rfl k_) ?_
  show own_Go p e below T16 (mkF m 82 #[.val (.ref x), .val (.int (1 : Int32))] [(.ref x)]) _
  obtain ⟨cq17, kq17, qa17, qb17, qc17⟩ := isOf hZ eH16 f7
  obtain ⟨_, _, ⟨T17, L17, k17, n17⟩, -, X17, ⟨Lc17, hQ17, l17, y17, z17⟩, st17⟩ := X16.virtualBack hx (y := (⟨"java/lang/String", "length", "()I"⟩ : MethodName)) (z := (⟨"java/lang/String", "length", "()I"⟩ : MethodName)) hown (mvT hZ (hw _ (List.mem_of_getElem? (i := 60) rfl))) (mvT hZ (hw _ (List.mem_of_getElem? (i := 61) rfl))) (notFace_of_selects (args := #[]) (mvT hZ (hw _ (List.mem_of_getElem? (i := 63) rfl)))) (mvT hZ (hw _ (List.mem_of_getElem? (i := 63) rfl))) (mvT hZ (hw _ (List.mem_of_getElem? (i := 62) rfl))) (by decide) (StrChars.Road.lenW (W := 0) hZ hln (kI := 4) (hw _ (List.mem_of_getElem? (i := 7) rfl)) f7 f8 f9 f10 hcd6 hbd6 (pS_COMPACT_STRINGS.ext f11.2) pP5 (Nat.le_of_ble_eq_true rfl) (by decide) (by decide)) qa17 qc17 (g := (mkF m 82 #[.val (.ref x), .val (.int (1 : Int32))] [(.ref x)])) rfl (by rw [hml]; rfl) (Steps.refl _) (argsL := []) (rest := []) (lenOf pd___I rfl) rfl (by show 2 * 0 + _ ≤ _; exact Nat.le_of_eq rfl) (hb hby d12_82) (fun _ _ => ⟨rfl, eH16, (by decide : 2 + 0 ≤ _), (by decide : 20 + 0 ≤ _)⟩)
  dsimp only [Pt.U, Pt.locs, Pt.cells, Pt.slots] at X17 l17 y17 z17 st17 hQ17
  try dsimp only [Nat.reduceAdd] at y17 z17
  rw [l17, y17, z17] at X17
  obtain ⟨rfl, rfl, eH17⟩ := hQ17
  have N17 := Fr.app N16 (Fr.nil n0)
  refine own_tr st17 ?_
  show own_Go p e below T17 (mkF m 85 #[.val (.ref x), .val (.int (1 : Int32))] [(.int (1 : Int32))]) _
  refine own_st (fun t_ k_ => XS.bipush X17.here hx rfl (hb hby d12_85) k_) ?_
  show own_Go p e below T17 (mkF m 87 #[.val (.ref x), .val (.int (1 : Int32))] [(.int (64 : Int32)), (.int (1 : Int32))]) _
  refine own_st (fun t_ k_ => XS.icmpYes X17.here hx rfl (pc0 := 87) (pc' := 128) rfl (hb hby d12_87) rfl (by decide) (by decide) (by decide) k_) ?_
  show own_Go p e below T17 (mkF m 128 #[.val (.ref x), .val (.int (1 : Int32))] []) _
  obtain ⟨T18, h18, X18, e18, E18, A18, D18, -, st18⟩ := newO X17 hx hZ hown (hw _ (List.mem_of_getElem? (i := 99) rfl)) (hw _ (List.mem_of_getElem? (i := 100) rfl)) (hw _ (List.mem_of_getElem? (i := 51) rfl)) eH17 (g := (mkF m 128 #[.val (.ref x), .val (.int (1 : Int32))] [])) rfl (hb hby d12_128) (by decide) (by decide)
  obtain ⟨b18, g18⟩ : ∃ z, z = h1.size := ⟨_, rfl⟩
  rw [← g18] at A18 D18 st18
  have G18 : n0 ≤ b18 := Nat.le_trans f4 (Nat.le_of_eq g18.symm)
  have B18 : h0.size ≤ b18 := Nat.le_trans K3.1 (Nat.le_of_eq g18.symm)
  have CH19 := CH2.ext E18
  have CR19 := CHr.trans CR2 (CHr.ext E18 CH2)
  have K20 : Keep h0 h18 [] := K3.ext E18
  have D18_text : Fld Z h18 b18 "com/example/faithful_courier/faithfulcourier/core/Name" "text" "Ljava/lang/String;" .null := D18 (Or.inr (hw _ (List.mem_of_getElem? (i := 106) rfl))) (ty := (.object "java/lang/String")) (by decide)
  refine own_st st18 ?_
  show own_Go p e below T18 (mkF m 131 #[.val (.ref x), .val (.int (1 : Int32))] [(.ref b18)]) _
  refine own_st (fun t_ k_ => XS.dup X18.here hx rfl (hb hby d12_131) rfl rfl k_) ?_
  show own_Go p e below T18 (mkF m 132 #[.val (.ref x), .val (.int (1 : Int32))] [(.ref b18), (.ref b18)]) _
  refine own_st (fun t_ k_ => XS.aloadN X18.here hx rfl (hb hby d12_132) rfl rfl k_) ?_
  show own_Go p e below T18 (mkF m 133 #[.val (.ref x), .val (.int (1 : Int32))] [(.ref x), (.ref b18), (.ref b18)]) _
  have f21 := (Nat.le_trans f4 E18.1)
  obtain ⟨_, _, ⟨T22, L22, k22, n22⟩, -, X22, ⟨Lc22, hQ22, l22, y22, z22⟩, st22⟩ := X18.specialBack hx (y := (⟨"com/example/faithful_courier/faithfulcourier/core/Name", "<init>", "(Ljava/lang/String;)V"⟩ : MethodName)) rfl hown (mvT hZ (hw _ (List.mem_of_getElem? (i := 101) rfl))) (mvT hZ (hw _ (List.mem_of_getElem? (i := 102) rfl))) (mvT hZ (hw _ (List.mem_of_getElem? (i := 103) rfl))) (by decide) (backOf (W := 1) (rmNi l Z a0 hw [] b18 x .null h18 n0 f21 A18 D18_text G18) hZ (hw _ (List.mem_of_getElem? (i := 103) rfl)) (hw _ (List.mem_of_getElem? (i := 51) rfl)) (by decide) (by decide)) (g := (mkF m 133 #[.val (.ref x), .val (.int (1 : Int32))] [(.ref x), (.ref b18), (.ref b18)])) rfl (by rw [hml]; rfl) (Steps.refl _) (a := b18) (argsL := [(.ref x)]) (rest := [(.ref b18)]) (lenOf pd__Ljava_lang_String__V rfl) rfl (by show 2 * 0 + _ ≤ _; exact Nat.le_of_eq rfl) (hb hby d12_133) (fun _ _ => ⟨rfl, e18, (by decide : 3 + 0 ≤ _), (by decide : 21 + 0 ≤ _)⟩)
  dsimp only [Pt.U, Pt.locs, Pt.cells, Pt.slots] at X22 l22 y22 z22 st22 hQ22
  try dsimp only [Nat.reduceAdd] at y22 z22
  rw [l22, y22, z22] at X22
  obtain ⟨rfl, Nq22, Kq22, q22_0, q22_1⟩ := hQ22
  have N22 := Fr.app N17 Nq22
  have Sa23 : ∀ y ∈ [b18], Safe Z own_EL T1.vm h18 y := (sfS (Safe.exa hZ.alike A18 (by decide) (by decide)) sf0)
  have CH23 := CH19.keep Kq22 Sa23
  have CR23 := CHr.trans CR19 (CHr.keep Kq22 Sa23 CH19)
  have K24 : Keep h0 T22.heap [] := K20.trans Kq22 (allS (Or.inr B18) all0)
  refine own_tr st22 ?_
  show own_Go p e below T22 (mkF m 136 #[.val (.ref x), .val (.int (1 : Int32))] [(.ref b18)]) _
  have f25 := (Nat.le_trans (Nat.le_trans hk1 E18.1) Kq22.1)
  obtain ⟨fs, hr, hrun, hended, hRW⟩ := X22.leaveW hS f25 (v := some (.ref b18)) (fun h => by rw [Bd.returns] at h; cases h)
  have hCend : CHr Z own_EL s.vm s.heap T22.vm T22.heap := by
    rw [hh]
    exact CHr.trans CR23 (CHv.at X22 hZ hEL CH23)
  refine own_fin (own_retR X22 hx rfl Bd.returns rfl (hb hby d12_136) hr) ⟨hrun, hended, _, _, rfl, ?_, hCend, hRW.1, hRW.2.1, hRW.2.2.1, hRW.2.2.2.mono (by decide) (by decide)⟩
  show Q_rmOf1 Z x tx kx c0 zc fm h0 n0 _ T22.heap _
  exact ⟨b18, rfl, N22, K24, q22_0, q22_1, B18, G18⟩
theorem ef_rmOf2 (m : MethodId) (x0 : Addr) : entryFrame m #[(.ref x0)] 2 = mkF m 0 #[.val (.ref x0), .unset] [] := by first | (simp [entryFrame, mkF, argsToLocals, Value.category]; done) | rfl
def Q_rmOf2 (Z : State) (x : Addr) (tx : Addr) (kx : ClassId) (c0 : Int32) (c1 : Int32) (zc : Int32) (fm : Value) (h0 : Heap) (n0 : Nat) (v : Option Value) (h : Heap) (L : List Loc) : Prop := ∃ b : Addr, v = some (.ref b) ∧ Fr n0 L ∧ Keep h0 h [] ∧ Exa Z h b "com/example/faithful_courier/faithfulcourier/core/Name" ∧ Fld Z h b "com/example/faithful_courier/faithfulcourier/core/Name" "text" "Ljava/lang/String;" (.ref x) ∧ h0.size ≤ b ∧ n0 ≤ b
set_option maxRecDepth 65536 in
set_option maxHeartbeats 40000000 in
theorem rmOf2 (l : Launch) (Z : State) (a0 : Array Value) (hw : ∀ d ∈ tables_1, d.before a0 Z = true) (ws : List Jvm.Cond) (x : Addr) (tx : Addr) (kx : ClassId) (c0 : Int32) (c1 : Int32) (zc : Int32) (fm : Value) (h0 : Heap) (n0 : Nat) (Z0 : n0 ≤ h0.size) (pE_x : Exa Z h0 x "java/lang/String") (pF_value_x : Fld Z h0 x "java/lang/String" "value" "[B" (.ref tx)) (pF_coder_x : Fld Z h0 x "java/lang/String" "coder" "B" (.int (0 : Int32))) (pV_tx : Arv Z h0 tx kx .byte (2 : Int32) ((([c0, c1] : List Int32).map (fun c => c.toInt8.toInt32)).map Value.int) (.int 0)) (hp_x : (∀ c ∈ ([c0, c1] : List Int32), ¬ c < 0 ∧ ¬ (255 : Int32) < c)) (al_c0 : (own_al c0)) (al_c1 : (own_al c1)) (pS_COMPACT_STRINGS : Sta Z Z.heap "java/lang/String" "COMPACT_STRINGS" "Z" (.int zc)) (pP5 : (¬ (zc = (0 : Int32)))) (pS_SIOOBE_FORMATTER : Sta Z Z.heap "jdk/internal/util/Preconditions" "SIOOBE_FORMATTER" "Ljava/util/function/BiFunction;" fm) (rfm : (fm.isRef = true)) (pO : Old Z n0 h0) :
    MetFree l (⟨"com/example/faithful_courier/faithfulcourier/core/Name", "of", "(Ljava/lang/String;)Lcom/example/faithful_courier/faithfulcourier/core/Name;"⟩ : MethodName) (head1 (Jvm.Cond.code (⟨"com/example/faithful_courier/faithfulcourier/core/Name", "of", "(Ljava/lang/String;)Lcom/example/faithful_courier/faithfulcourier/core/Name;"⟩ : MethodName) prog_2_method_2_code 2 (some (.object "com/example/faithful_courier/faithfulcourier/core/Name")) :: ws) ({ frames := 4, cells := 3, slots := 21, locals := 53 } : Room)) (fun a U => a = #[(.ref x)] ∧ Z.Warmed39 U.vm ∧ U.heap = h0 ∧ CHv Z own_EL U.vm h0) (fun _ _ _ _ _ => True) (fun _ U o U' => ∃ v L, o = .returned v ∧ Q_rmOf2 Z x tx kx c0 c1 zc fm h0 n0 v U'.heap L ∧ CHr Z own_EL U.vm U.heap U'.vm U'.heap ∧ ReturnedEndW U o U' L ({ frames := 4, cells := 3, slots := 21, locals := 53 } : Room).cells ({ frames := 4, cells := 3, slots := 21, locals := 53 } : Room).slots) := by
  refine MetFree.of_bodySF (plainFor_of_name pn_12) hisR ?_
  intro p e s m args below meth c s₁ Bd hml0 hP hK
  obtain ⟨rfl, hZ, hh, hCH⟩ := hP
  have hx := Bd.exec
  have hby := Bd.bytes
  have hml : c.maxLocals = 2 := hml0
  have hown : s.vm.findClass "com/example/faithful_courier/faithfulcourier/core/Name" = some m.cls := findClass_of_methodNamed Bd.named
  have hnm := (name_of_methodNamed Bd.named Bd.method).1
  have X0 : Stand p l e ({ frames := 4, cells := 3, slots := 21, locals := 53 } : Room) (s.setVm s.vm) m #[(.ref x)] below meth c s₁ [] 0 0 := Stand.of_body Bd
  have e0 : s₁.heap = h0 := by rw [← hh, Bd.state]; rfl
  have N0 := Fr.nil n0
  have hEL := own_EW hw
  have hCR := CHr.refl hCH
  have hS : s.Since s.vm h0.size := (State.WarmedH.refl s).since _
  have hK0 : h0.size ≤ h0.size := Nat.le_refl _
  refine own_enter (ef_rmOf2 m x) ?_
  have hln : ∀ d ∈ StrChars.Road.wordsLen, d.before a0 Z = true := fun d hd => hw d ((by decide +kernel : ∀ d ∈ StrChars.Road.wordsLen, d ∈ tables_1) d hd)
  have hch : ∀ d ∈ StrChars.Road.wordsChN, d.before a0 Z = true := fun d hd => hw d ((by decide +kernel : ∀ d ∈ StrChars.Road.wordsChN, d ∈ tables_1) d hd)
  have hem : ∀ d ∈ StrChars.Road.wordsEmp, d.before a0 Z = true := fun d hd => hw d ((by decide +kernel : ∀ d ∈ StrChars.Road.wordsEmp, d ∈ tables_1) d hd)
  refine own_st (fun t_ k_ => XS.aloadN X0.here hx rfl (hb hby d12_0) rfl rfl k_) ?_
  show own_Go p e below s₁ (mkF m 1 #[.val (.ref x), .unset] [(.ref x)]) _
  obtain ⟨b1, T1, h1, k1, X1, e1, E1, hS, hk1, hZ, hown, A1, -, st1⟩ := ldcOH X0 hx hZ hown (hw _ (List.mem_of_getElem? (i := 53) rfl)) (own_wS hw) e0 hS hK0 hEL hCH (g := (mkF m 1 #[.val (.ref x), .unset] [(.ref x)])) rfl (hb hby d12_1) (n := 16) (by decide) (by decide) (by decide) (by decide)
  have CH2 := A1.1
  have CR2 := CHr.trans hCR (A1)
  have K3 : Keep h0 h1 [] := (Keep.refl h0 []).ext E1
  refine own_st st1 ?_
  show own_Go p e below T1 (mkF m 3 #[.val (.ref x), .unset] [(.ref b1), (.ref x)]) _
  have f4 := (Nat.le_trans Z0 E1.1)
  obtain ⟨_, _, ⟨T5, L5, k5, n5⟩, -, X5, ⟨Lc5, hQ5, l5, y5, z5⟩, st5⟩ := Jvm.LawKit.callS X1 hx (y := (⟨"java/util/Objects", "requireNonNull", "(Ljava/lang/Object;Ljava/lang/String;)Ljava/lang/Object;"⟩ : MethodName)) hown (mvT hZ (hw _ (List.mem_of_getElem? (i := 56) rfl))) (mvT hZ (hw _ (List.mem_of_getElem? (i := 57) rfl))) (mvT hZ (hw _ (List.mem_of_getElem? (i := 58) rfl))) (mvT hZ (hw _ (List.mem_of_getElem? (i := 59) rfl))) (by decide) (backOf (W := 0) (rmRn l Z a0 hw [] x b1 h1 n0 f4 ) hZ (hw _ (List.mem_of_getElem? (i := 59) rfl)) (hw _ (List.mem_of_getElem? (i := 58) rfl)) (by decide) (by decide)) (g := (mkF m 3 #[.val (.ref x), .unset] [(.ref b1), (.ref x)])) rfl (by rw [hml]; rfl) (argsL := [(.ref x), (.ref b1)]) (rest := []) (lenOf pd__Ljava_lang_Object_Ljava_lang_String__Ljava_lang_Object_ rfl) rfl (by show 2 * 0 + _ ≤ _; exact Nat.le_of_eq rfl) (hb hby d12_3) (fun _ _ => ⟨rfl, e1, (by decide : 2 + 0 ≤ _), (by decide : 20 + 0 ≤ _)⟩)
  dsimp only [Pt.U, Pt.locs, Pt.cells, Pt.slots] at X5 l5 y5 z5 st5 hQ5
  try dsimp only [Nat.reduceAdd] at y5 z5
  rw [l5, y5, z5] at X5
  obtain ⟨rfl, Nq5, eH5⟩ := hQ5
  have N5 := Fr.app N0 Nq5
  refine own_st st5 ?_
  show own_Go p e below T5 (mkF m 6 #[.val (.ref x), .unset] [(.ref x)]) _
  refine own_st (fun t_ k_ => XS.pop X5.here hx rfl (hb hby d12_6) rfl rfl k_) ?_
  show own_Go p e below T5 (mkF m 7 #[.val (.ref x), .unset] []) _
  refine own_st (fun t_ k_ => XS.iconst X5.here hx rfl (hb hby d12_7) k_) ?_
  show own_Go p e below T5 (mkF m 8 #[.val (.ref x), .unset] [(.int (0 : Int32))]) _
  refine own_st (fun t_ k_ => XS.istoreN X5.here hx rfl (hb hby d12_8) rfl (l' := #[.val (.ref x), .val (.int (0 : Int32))]) rfl k_) ?_
  show own_Go p e below T5 (mkF m 9 #[.val (.ref x), .val (.int (0 : Int32))] []) _
  refine own_st (fun t_ k_ => XS.iloadN X5.here hx rfl (hb hby d12_9) rfl k_) ?_
  show own_Go p e below T5 (mkF m 10 #[.val (.ref x), .val (.int (0 : Int32))] [(.int (0 : Int32))]) _
  refine own_st (fun t_ k_ => XS.aloadN X5.here hx rfl (hb hby d12_10) rfl rfl k_) ?_
  show own_Go p e below T5 (mkF m 11 #[.val (.ref x), .val (.int (0 : Int32))] [(.ref x), (.int (0 : Int32))]) _
  have hcd6 : StrChars.Road.CodA ([c0, c1] : List Int32) 0 (2 : Int32) ((([c0, c1] : List Int32).map (fun c => c.toInt8.toInt32)).map Value.int) := StrChars.Road.codOf rfl (fun x hx => (hp_x x hx).2)
  have hbd6 : ∀ x ∈ ([c0, c1] : List Int32), ¬ x < 0 ∧ ¬ (65535 : Int32) < x := own_up _ hp_x
  have f7 := (pE_x.ext E1)
  have f8 := (pF_value_x.ext E1)
  have f9 := (pF_coder_x.ext E1)
  have f10 := (pV_tx.ext E1)
  have f11 := (pO.ext E1)
  obtain ⟨cq12, kq12, qa12, qb12, qc12⟩ := isOf hZ eH5 f7
  obtain ⟨_, _, ⟨T12, L12, k12, n12⟩, -, X12, ⟨Lc12, hQ12, l12, y12, z12⟩, st12⟩ := X5.virtualBack hx (y := (⟨"java/lang/String", "length", "()I"⟩ : MethodName)) (z := (⟨"java/lang/String", "length", "()I"⟩ : MethodName)) hown (mvT hZ (hw _ (List.mem_of_getElem? (i := 60) rfl))) (mvT hZ (hw _ (List.mem_of_getElem? (i := 61) rfl))) (notFace_of_selects (args := #[]) (mvT hZ (hw _ (List.mem_of_getElem? (i := 63) rfl)))) (mvT hZ (hw _ (List.mem_of_getElem? (i := 63) rfl))) (mvT hZ (hw _ (List.mem_of_getElem? (i := 62) rfl))) (by decide) (StrChars.Road.lenW (W := 1) hZ hln (kI := 4) (hw _ (List.mem_of_getElem? (i := 7) rfl)) f7 f8 f9 f10 hcd6 hbd6 (pS_COMPACT_STRINGS.ext f11.2) pP5 (Nat.le_of_ble_eq_true rfl) (by decide) (by decide)) qa12 qc12 (g := (mkF m 11 #[.val (.ref x), .val (.int (0 : Int32))] [(.ref x), (.int (0 : Int32))])) rfl (by rw [hml]; rfl) (Steps.refl _) (argsL := []) (rest := [(.int (0 : Int32))]) (lenOf pd___I rfl) rfl (by show 2 * 0 + _ ≤ _; exact Nat.le_of_eq rfl) (hb hby d12_11) (fun _ _ => ⟨rfl, eH5, (by decide : 2 + 0 ≤ _), (by decide : 20 + 0 ≤ _)⟩)
  dsimp only [Pt.U, Pt.locs, Pt.cells, Pt.slots] at X12 l12 y12 z12 st12 hQ12
  try dsimp only [Nat.reduceAdd] at y12 z12
  rw [l12, y12, z12] at X12
  obtain ⟨rfl, rfl, eH12⟩ := hQ12
  have N12 := Fr.app N5 (Fr.nil n0)
  refine own_tr st12 ?_
  show own_Go p e below T12 (mkF m 14 #[.val (.ref x), .val (.int (0 : Int32))] [(.int (2 : Int32)), (.int (0 : Int32))]) _
  refine own_st (fun t_ k_ => XS.icmpNo X12.here hx rfl (hb hby d12_14) rfl (by decide) k_) ?_
  show own_Go p e below T12 (mkF m 17 #[.val (.ref x), .val (.int (0 : Int32))] []) _
  refine own_st (fun t_ k_ => XS.aloadN X12.here hx rfl (hb hby d12_17) rfl rfl k_) ?_
  show own_Go p e below T12 (mkF m 18 #[.val (.ref x), .val (.int (0 : Int32))] [(.ref x)]) _
  refine own_st (fun t_ k_ => XS.iloadN X12.here hx rfl (hb hby d12_18) rfl k_) ?_
  show own_Go p e below T12 (mkF m 19 #[.val (.ref x), .val (.int (0 : Int32))] [(.int (0 : Int32)), (.ref x)]) _
  obtain ⟨cq13, kq13, qa13, qb13, qc13⟩ := isOf hZ eH12 f7
  obtain ⟨_, _, ⟨T13, L13, k13, n13⟩, -, X13, ⟨Lc13, hQ13, l13, y13, z13⟩, st13⟩ := X12.virtualBack hx (y := (⟨"java/lang/String", "charAt", "(I)C"⟩ : MethodName)) (z := (⟨"java/lang/String", "charAt", "(I)C"⟩ : MethodName)) hown (mvT hZ (hw _ (List.mem_of_getElem? (i := 70) rfl))) (mvT hZ (hw _ (List.mem_of_getElem? (i := 71) rfl))) (notFace_of_selects (args := #[]) (mvT hZ (hw _ (List.mem_of_getElem? (i := 73) rfl)))) (mvT hZ (hw _ (List.mem_of_getElem? (i := 73) rfl))) (mvT hZ (hw _ (List.mem_of_getElem? (i := 72) rfl))) (by decide) (StrChars.Road.chN (W := 0) hZ hch (kI := 4) (hw _ (List.mem_of_getElem? (i := 7) rfl)) f7 f8 f9 f10 hcd6 hbd6 (pS_COMPACT_STRINGS.ext f11.2) pP5 (pS_SIOOBE_FORMATTER.ext f11.2) rfm (Nat.le_of_ble_eq_true rfl) (i := 0) (Nat.le_of_ble_eq_true rfl) (j := (0 : Int32)) rfl (by decide) (by decide)) qa13 qc13 (g := (mkF m 19 #[.val (.ref x), .val (.int (0 : Int32))] [(.int (0 : Int32)), (.ref x)])) rfl (by rw [hml]; rfl) (Steps.refl _) (argsL := [(.int (0 : Int32))]) (rest := []) (lenOf pd__I_C rfl) rfl (by show 2 * 0 + _ ≤ _; exact Nat.le_of_eq rfl) (hb hby d12_19) (fun _ _ => ⟨rfl, eH12, (by decide : 2 + 0 ≤ _), (by decide : 20 + 0 ≤ _)⟩)
  dsimp only [Pt.U, Pt.locs, Pt.cells, Pt.slots] at X13 l13 y13 z13 st13 hQ13
  try dsimp only [Nat.reduceAdd] at y13 z13
  rw [l13, y13, z13] at X13
  obtain ⟨rfl, rfl, eH13⟩ := hQ13
  have N13 := Fr.app N12 (Fr.nil n0)
  refine own_tr st13 ?_
  show own_Go p e below T13 (mkF m 22 #[.val (.ref x), .val (.int (0 : Int32))] [(.int c0)]) _
  obtain ⟨_, _, ⟨T14, L14, k14, n14⟩, -, X14, ⟨Lc14, hQ14, l14, y14, z14⟩, st14⟩ := Jvm.LawKit.callS X13 hx (y := (⟨"com/example/faithful_courier/faithfulcourier/core/Name", "isAllowed", "(C)Z"⟩ : MethodName)) hown (mvT hZ (hw _ (List.mem_of_getElem? (i := 91) rfl))) (mvT hZ (hw _ (List.mem_of_getElem? (i := 92) rfl))) (mvT hZ (hw _ (List.mem_of_getElem? (i := 51) rfl))) (mvT hZ (hw _ (List.mem_of_getElem? (i := 93) rfl))) (by decide) (backOf (W := 0) (rmIa l Z a0 hw [] c0 h1 n0 f4 al_c0) hZ (hw _ (List.mem_of_getElem? (i := 93) rfl)) (hw _ (List.mem_of_getElem? (i := 51) rfl)) (by decide) (by decide)) (g := (mkF m 22 #[.val (.ref x), .val (.int (0 : Int32))] [(.int c0)])) rfl (by rw [hml]; rfl) (argsL := [(.int c0)]) (rest := []) (lenOf pd__C_Z rfl) rfl (by show 2 * 0 + _ ≤ _; exact Nat.le_of_eq rfl) (hb hby d12_22) (fun _ _ => ⟨rfl, eH13, (by decide : 2 + 0 ≤ _), (by decide : 20 + 0 ≤ _)⟩)
  dsimp only [Pt.U, Pt.locs, Pt.cells, Pt.slots] at X14 l14 y14 z14 st14 hQ14
  try dsimp only [Nat.reduceAdd] at y14 z14
  rw [l14, y14, z14] at X14
  obtain ⟨rfl, Nq14, eH14⟩ := hQ14
  have N14 := Fr.app N13 Nq14
  refine own_st st14 ?_
  show own_Go p e below T14 (mkF m 25 #[.val (.ref x), .val (.int (0 : Int32))] [(.int (1 : Int32))]) _
  refine own_st (fun t_ k_ => XS.ifYes X14.here hx rfl (pc0 := 25) (pc' := 68) rfl (hb hby d12_25) rfl (by decide) (by decide) (by decide) k_) ?_
  show own_Go p e below T14 (mkF m 68 #[.val (.ref x), .val (.int (0 : Int32))] []) _
  refine own_st (fun t_ k_ => XS.iinc X14.here hx rfl (hb hby d12_68) rfl (l' := #[.val (.ref x), .val (.int (1 : Int32))]) rfl k_) ?_
  show own_Go p e below T14 (mkF m 71 #[.val (.ref x), .val (.int (1 : Int32))] []) _
  refine own_st (fun t_ k_ => XS.goto X14.here hx rfl (pc0 := 71) (pc' := 9) rfl (hb hby d12_71) (by decide) (by decide) k_) ?_
  show own_Go p e below T14 (mkF m 9 #[.val (.ref x), .val (.int (1 : Int32))] []) _
  refine own_st (fun t_ k_ => XS.iloadN X14.here hx rfl (hb hby d12_9) rfl k_) ?_
  show own_Go p e below T14 (mkF m 10 #[.val (.ref x), .val (.int (1 : Int32))] [(.int (1 : Int32))]) _
  refine own_st (fun t_ k_ => XS.aloadN X14.here hx rfl (hb hby d12_10) rfl rfl k_) ?_
  show own_Go p e below T14 (mkF m 11 #[.val (.ref x), .val (.int (1 : Int32))] [(.ref x), (.int (1 : Int32))]) _
  obtain ⟨cq15, kq15, qa15, qb15, qc15⟩ := isOf hZ eH14 f7
  obtain ⟨_, _, ⟨T15, L15, k15, n15⟩, -, X15, ⟨Lc15, hQ15, l15, y15, z15⟩, st15⟩ := X14.virtualBack hx (y := (⟨"java/lang/String", "length", "()I"⟩ : MethodName)) (z := (⟨"java/lang/String", "length", "()I"⟩ : MethodName)) hown (mvT hZ (hw _ (List.mem_of_getElem? (i := 60) rfl))) (mvT hZ (hw _ (List.mem_of_getElem? (i := 61) rfl))) (notFace_of_selects (args := #[]) (mvT hZ (hw _ (List.mem_of_getElem? (i := 63) rfl)))) (mvT hZ (hw _ (List.mem_of_getElem? (i := 63) rfl))) (mvT hZ (hw _ (List.mem_of_getElem? (i := 62) rfl))) (by decide) (StrChars.Road.lenW (W := 1) hZ hln (kI := 4) (hw _ (List.mem_of_getElem? (i := 7) rfl)) f7 f8 f9 f10 hcd6 hbd6 (pS_COMPACT_STRINGS.ext f11.2) pP5 (Nat.le_of_ble_eq_true rfl) (by decide) (by decide)) qa15 qc15 (g := (mkF m 11 #[.val (.ref x), .val (.int (1 : Int32))] [(.ref x), (.int (1 : Int32))])) rfl (by rw [hml]; rfl) (Steps.refl _) (argsL := []) (rest := [(.int (1 : Int32))]) (lenOf pd___I rfl) rfl (by show 2 * 0 + _ ≤ _; exact Nat.le_of_eq rfl) (hb hby d12_11) (fun _ _ => ⟨rfl, eH14, (by decide : 2 + 0 ≤ _), (by decide : 20 + 0 ≤ _)⟩)
  dsimp only [Pt.U, Pt.locs, Pt.cells, Pt.slots] at X15 l15 y15 z15 st15 hQ15
  try dsimp only [Nat.reduceAdd] at y15 z15
  rw [l15, y15, z15] at X15
  obtain ⟨rfl, rfl, eH15⟩ := hQ15
  have N15 := Fr.app N14 (Fr.nil n0)
  refine own_tr st15 ?_
  show own_Go p e below T15 (mkF m 14 #[.val (.ref x), .val (.int (1 : Int32))] [(.int (2 : Int32)), (.int (1 : Int32))]) _
  refine own_st (fun t_ k_ => XS.icmpNo X15.here hx rfl (hb hby d12_14) rfl (by decide) k_) ?_
  show own_Go p e below T15 (mkF m 17 #[.val (.ref x), .val (.int (1 : Int32))] []) _
  refine own_st (fun t_ k_ => XS.aloadN X15.here hx rfl (hb hby d12_17) rfl rfl k_) ?_
  show own_Go p e below T15 (mkF m 18 #[.val (.ref x), .val (.int (1 : Int32))] [(.ref x)]) _
  refine own_st (fun t_ k_ => XS.iloadN X15.here hx rfl (hb hby d12_18) rfl k_) ?_
  show own_Go p e below T15 (mkF m 19 #[.val (.ref x), .val (.int (1 : Int32))] [(.int (1 : Int32)), (.ref x)]) _
  obtain ⟨cq16, kq16, qa16, qb16, qc16⟩ := isOf hZ eH15 f7
  obtain ⟨_, _, ⟨T16, L16, k16, n16⟩, -, X16, ⟨Lc16, hQ16, l16, y16, z16⟩, st16⟩ := X15.virtualBack hx (y := (⟨"java/lang/String", "charAt", "(I)C"⟩ : MethodName)) (z := (⟨"java/lang/String", "charAt", "(I)C"⟩ : MethodName)) hown (mvT hZ (hw _ (List.mem_of_getElem? (i := 70) rfl))) (mvT hZ (hw _ (List.mem_of_getElem? (i := 71) rfl))) (notFace_of_selects (args := #[]) (mvT hZ (hw _ (List.mem_of_getElem? (i := 73) rfl)))) (mvT hZ (hw _ (List.mem_of_getElem? (i := 73) rfl))) (mvT hZ (hw _ (List.mem_of_getElem? (i := 72) rfl))) (by decide) (StrChars.Road.chN (W := 0) hZ hch (kI := 4) (hw _ (List.mem_of_getElem? (i := 7) rfl)) f7 f8 f9 f10 hcd6 hbd6 (pS_COMPACT_STRINGS.ext f11.2) pP5 (pS_SIOOBE_FORMATTER.ext f11.2) rfm (Nat.le_of_ble_eq_true rfl) (i := 1) (Nat.le_of_ble_eq_true rfl) (j := (1 : Int32)) rfl (by decide) (by decide)) qa16 qc16 (g := (mkF m 19 #[.val (.ref x), .val (.int (1 : Int32))] [(.int (1 : Int32)), (.ref x)])) rfl (by rw [hml]; rfl) (Steps.refl _) (argsL := [(.int (1 : Int32))]) (rest := []) (lenOf pd__I_C rfl) rfl (by show 2 * 0 + _ ≤ _; exact Nat.le_of_eq rfl) (hb hby d12_19) (fun _ _ => ⟨rfl, eH15, (by decide : 2 + 0 ≤ _), (by decide : 20 + 0 ≤ _)⟩)
  dsimp only [Pt.U, Pt.locs, Pt.cells, Pt.slots] at X16 l16 y16 z16 st16 hQ16
  try dsimp only [Nat.reduceAdd] at y16 z16
  rw [l16, y16, z16] at X16
  obtain ⟨rfl, rfl, eH16⟩ := hQ16
  have N16 := Fr.app N15 (Fr.nil n0)
  refine own_tr st16 ?_
  show own_Go p e below T16 (mkF m 22 #[.val (.ref x), .val (.int (1 : Int32))] [(.int c1)]) _
  obtain ⟨_, _, ⟨T17, L17, k17, n17⟩, -, X17, ⟨Lc17, hQ17, l17, y17, z17⟩, st17⟩ := Jvm.LawKit.callS X16 hx (y := (⟨"com/example/faithful_courier/faithfulcourier/core/Name", "isAllowed", "(C)Z"⟩ : MethodName)) hown (mvT hZ (hw _ (List.mem_of_getElem? (i := 91) rfl))) (mvT hZ (hw _ (List.mem_of_getElem? (i := 92) rfl))) (mvT hZ (hw _ (List.mem_of_getElem? (i := 51) rfl))) (mvT hZ (hw _ (List.mem_of_getElem? (i := 93) rfl))) (by decide) (backOf (W := 0) (rmIa l Z a0 hw [] c1 h1 n0 f4 al_c1) hZ (hw _ (List.mem_of_getElem? (i := 93) rfl)) (hw _ (List.mem_of_getElem? (i := 51) rfl)) (by decide) (by decide)) (g := (mkF m 22 #[.val (.ref x), .val (.int (1 : Int32))] [(.int c1)])) rfl (by rw [hml]; rfl) (argsL := [(.int c1)]) (rest := []) (lenOf pd__C_Z rfl) rfl (by show 2 * 0 + _ ≤ _; exact Nat.le_of_eq rfl) (hb hby d12_22) (fun _ _ => ⟨rfl, eH16, (by decide : 2 + 0 ≤ _), (by decide : 20 + 0 ≤ _)⟩)
  dsimp only [Pt.U, Pt.locs, Pt.cells, Pt.slots] at X17 l17 y17 z17 st17 hQ17
  try dsimp only [Nat.reduceAdd] at y17 z17
  rw [l17, y17, z17] at X17
  obtain ⟨rfl, Nq17, eH17⟩ := hQ17
  have N17 := Fr.app N16 Nq17
  refine own_st st17 ?_
  show own_Go p e below T17 (mkF m 25 #[.val (.ref x), .val (.int (1 : Int32))] [(.int (1 : Int32))]) _
  refine own_st (fun t_ k_ => XS.ifYes X17.here hx rfl (pc0 := 25) (pc' := 68) rfl (hb hby d12_25) rfl (by decide) (by decide) (by decide) k_) ?_
  show own_Go p e below T17 (mkF m 68 #[.val (.ref x), .val (.int (1 : Int32))] []) _
  refine own_st (fun t_ k_ => XS.iinc X17.here hx rfl (hb hby d12_68) rfl (l' := #[.val (.ref x), .val (.int (2 : Int32))]) rfl k_) ?_
  show own_Go p e below T17 (mkF m 71 #[.val (.ref x), .val (.int (2 : Int32))] []) _
  refine own_st (fun t_ k_ => XS.goto X17.here hx rfl (pc0 := 71) (pc' := 9) rfl (hb hby d12_71) (by decide) (by decide) k_) ?_
  show own_Go p e below T17 (mkF m 9 #[.val (.ref x), .val (.int (2 : Int32))] []) _
  refine own_st (fun t_ k_ => XS.iloadN X17.here hx rfl (hb hby d12_9) rfl k_) ?_
  show own_Go p e below T17 (mkF m 10 #[.val (.ref x), .val (.int (2 : Int32))] [(.int (2 : Int32))]) _
  refine own_st (fun t_ k_ => XS.aloadN X17.here hx rfl (hb hby d12_10) rfl rfl k_) ?_
  show own_Go p e below T17 (mkF m 11 #[.val (.ref x), .val (.int (2 : Int32))] [(.ref x), (.int (2 : Int32))]) _
  obtain ⟨cq18, kq18, qa18, qb18, qc18⟩ := isOf hZ eH17 f7
  obtain ⟨_, _, ⟨T18, L18, k18, n18⟩, -, X18, ⟨Lc18, hQ18, l18, y18, z18⟩, st18⟩ := X17.virtualBack hx (y := (⟨"java/lang/String", "length", "()I"⟩ : MethodName)) (z := (⟨"java/lang/String", "length", "()I"⟩ : MethodName)) hown (mvT hZ (hw _ (List.mem_of_getElem? (i := 60) rfl))) (mvT hZ (hw _ (List.mem_of_getElem? (i := 61) rfl))) (notFace_of_selects (args := #[]) (mvT hZ (hw _ (List.mem_of_getElem? (i := 63) rfl)))) (mvT hZ (hw _ (List.mem_of_getElem? (i := 63) rfl))) (mvT hZ (hw _ (List.mem_of_getElem? (i := 62) rfl))) (by decide) (StrChars.Road.lenW (W := 1) hZ hln (kI := 4) (hw _ (List.mem_of_getElem? (i := 7) rfl)) f7 f8 f9 f10 hcd6 hbd6 (pS_COMPACT_STRINGS.ext f11.2) pP5 (Nat.le_of_ble_eq_true rfl) (by decide) (by decide)) qa18 qc18 (g := (mkF m 11 #[.val (.ref x), .val (.int (2 : Int32))] [(.ref x), (.int (2 : Int32))])) rfl (by rw [hml]; rfl) (Steps.refl _) (argsL := []) (rest := [(.int (2 : Int32))]) (lenOf pd___I rfl) rfl (by show 2 * 0 + _ ≤ _; exact Nat.le_of_eq rfl) (hb hby d12_11) (fun _ _ => ⟨rfl, eH17, (by decide : 2 + 0 ≤ _), (by decide : 20 + 0 ≤ _)⟩)
  dsimp only [Pt.U, Pt.locs, Pt.cells, Pt.slots] at X18 l18 y18 z18 st18 hQ18
  try dsimp only [Nat.reduceAdd] at y18 z18
  rw [l18, y18, z18] at X18
  obtain ⟨rfl, rfl, eH18⟩ := hQ18
  have N18 := Fr.app N17 (Fr.nil n0)
  refine own_tr st18 ?_
  show own_Go p e below T18 (mkF m 14 #[.val (.ref x), .val (.int (2 : Int32))] [(.int (2 : Int32)), (.int (2 : Int32))]) _
  refine own_st (fun t_ k_ => XS.icmpYes X18.here hx rfl (pc0 := 14) (pc' := 74) rfl (hb hby d12_14) rfl (by decide) (by decide) (by decide) k_) ?_
  show own_Go p e below T18 (mkF m 74 #[.val (.ref x), .val (.int (2 : Int32))] []) _
  refine own_st (fun t_ k_ => XS.aloadN X18.here hx rfl (hb hby d12_74) rfl rfl k_) ?_
  show own_Go p e below T18 (mkF m 75 #[.val (.ref x), .val (.int (2 : Int32))] [(.ref x)]) _
  obtain ⟨cq19, kq19, qa19, qb19, qc19⟩ := isOf hZ eH18 f7
  obtain ⟨_, _, ⟨T19, L19, k19, n19⟩, -, X19, ⟨Lc19, hQ19, l19, y19, z19⟩, st19⟩ := X18.virtualBack hx (y := (⟨"java/lang/String", "isEmpty", "()Z"⟩ : MethodName)) (z := (⟨"java/lang/String", "isEmpty", "()Z"⟩ : MethodName)) hown (mvT hZ (hw _ (List.mem_of_getElem? (i := 94) rfl))) (mvT hZ (hw _ (List.mem_of_getElem? (i := 95) rfl))) (notFace_of_selects (args := #[]) (mvT hZ (hw _ (List.mem_of_getElem? (i := 97) rfl)))) (mvT hZ (hw _ (List.mem_of_getElem? (i := 97) rfl))) (mvT hZ (hw _ (List.mem_of_getElem? (i := 96) rfl))) (by decide) (StrChars.Road.empW (W := 0) hZ hem (kI := 4) (hw _ (List.mem_of_getElem? (i := 7) rfl)) f7 f8 f9 f10 hcd6 hbd6 (Nat.le_of_ble_eq_true rfl) (by decide) (by decide)) qa19 qc19 (g := (mkF m 75 #[.val (.ref x), .val (.int (2 : Int32))] [(.ref x)])) rfl (by rw [hml]; rfl) (Steps.refl _) (argsL := []) (rest := []) (lenOf pd___Z rfl) rfl (by show 2 * 0 + _ ≤ _; exact Nat.le_of_eq rfl) (hb hby d12_75) (fun _ _ => ⟨rfl, eH18, (by decide : 2 + 0 ≤ _), (by decide : 20 + 0 ≤ _)⟩)
  dsimp only [Pt.U, Pt.locs, Pt.cells, Pt.slots] at X19 l19 y19 z19 st19 hQ19
  try dsimp only [Nat.reduceAdd] at y19 z19
  rw [l19, y19, z19] at X19
  obtain ⟨rfl, rfl, eH19⟩ := hQ19
  have N19 := Fr.app N18 (Fr.nil n0)
  refine own_tr st19 ?_
  show own_Go p e below T19 (mkF m 78 #[.val (.ref x), .val (.int (2 : Int32))] [(.int (0 : Int32))]) _
  refine own_st (fun t_ k_ => XS.ifNo X19.here hx rfl (hb hby d12_78) rfl (by decide) k_) ?_
  show own_Go p e below T19 (mkF m 81 #[.val (.ref x), .val (.int (2 : Int32))] []) _
  refine own_st (fun t_ k_ => XS.aloadN X19.here hx rfl (hb hby d12_81) rfl rfl k_) ?_
  show own_Go p e below T19 (mkF m 82 #[.val (.ref x), .val (.int (2 : Int32))] [(.ref x)]) _
  obtain ⟨cq20, kq20, qa20, qb20, qc20⟩ := isOf hZ eH19 f7
  obtain ⟨_, _, ⟨T20, L20, k20, n20⟩, -, X20, ⟨Lc20, hQ20, l20, y20, z20⟩, st20⟩ := X19.virtualBack hx (y := (⟨"java/lang/String", "length", "()I"⟩ : MethodName)) (z := (⟨"java/lang/String", "length", "()I"⟩ : MethodName)) hown (mvT hZ (hw _ (List.mem_of_getElem? (i := 60) rfl))) (mvT hZ (hw _ (List.mem_of_getElem? (i := 61) rfl))) (notFace_of_selects (args := #[]) (mvT hZ (hw _ (List.mem_of_getElem? (i := 63) rfl)))) (mvT hZ (hw _ (List.mem_of_getElem? (i := 63) rfl))) (mvT hZ (hw _ (List.mem_of_getElem? (i := 62) rfl))) (by decide) (StrChars.Road.lenW (W := 0) hZ hln (kI := 4) (hw _ (List.mem_of_getElem? (i := 7) rfl)) f7 f8 f9 f10 hcd6 hbd6 (pS_COMPACT_STRINGS.ext f11.2) pP5 (Nat.le_of_ble_eq_true rfl) (by decide) (by decide)) qa20 qc20 (g := (mkF m 82 #[.val (.ref x), .val (.int (2 : Int32))] [(.ref x)])) rfl (by rw [hml]; rfl) (Steps.refl _) (argsL := []) (rest := []) (lenOf pd___I rfl) rfl (by show 2 * 0 + _ ≤ _; exact Nat.le_of_eq rfl) (hb hby d12_82) (fun _ _ => ⟨rfl, eH19, (by decide : 2 + 0 ≤ _), (by decide : 20 + 0 ≤ _)⟩)
  dsimp only [Pt.U, Pt.locs, Pt.cells, Pt.slots] at X20 l20 y20 z20 st20 hQ20
  try dsimp only [Nat.reduceAdd] at y20 z20
  rw [l20, y20, z20] at X20
  obtain ⟨rfl, rfl, eH20⟩ := hQ20
  have N20 := Fr.app N19 (Fr.nil n0)
  refine own_tr st20 ?_
  show own_Go p e below T20 (mkF m 85 #[.val (.ref x), .val (.int (2 : Int32))] [(.int (2 : Int32))]) _
  refine own_st (fun t_ k_ => XS.bipush X20.here hx rfl (hb hby d12_85) k_) ?_
  show own_Go p e below T20 (mkF m 87 #[.val (.ref x), .val (.int (2 : Int32))] [(.int (64 : Int32)), (.int (2 : Int32))]) _
  refine own_st (fun t_ k_ => XS.icmpYes X20.here hx rfl (pc0 := 87) (pc' := 128) rfl (hb hby d12_87) rfl (by decide) (by decide) (by decide) k_) ?_
  show own_Go p e below T20 (mkF m 128 #[.val (.ref x), .val (.int (2 : Int32))] []) _
  obtain ⟨T21, h21, X21, e21, E21, A21, D21, -, st21⟩ := newO X20 hx hZ hown (hw _ (List.mem_of_getElem? (i := 99) rfl)) (hw _ (List.mem_of_getElem? (i := 100) rfl)) (hw _ (List.mem_of_getElem? (i := 51) rfl)) eH20 (g := (mkF m 128 #[.val (.ref x), .val (.int (2 : Int32))] [])) rfl (hb hby d12_128) (by decide) (by decide)
  obtain ⟨b21, g21⟩ : ∃ z, z = h1.size := ⟨_, rfl⟩
  rw [← g21] at A21 D21 st21
  have G21 : n0 ≤ b21 := Nat.le_trans f4 (Nat.le_of_eq g21.symm)
  have B21 : h0.size ≤ b21 := Nat.le_trans K3.1 (Nat.le_of_eq g21.symm)
  have CH22 := CH2.ext E21
  have CR22 := CHr.trans CR2 (CHr.ext E21 CH2)
  have K23 : Keep h0 h21 [] := K3.ext E21
  have D21_text : Fld Z h21 b21 "com/example/faithful_courier/faithfulcourier/core/Name" "text" "Ljava/lang/String;" .null := D21 (Or.inr (hw _ (List.mem_of_getElem? (i := 106) rfl))) (ty := (.object "java/lang/String")) (by decide)
  refine own_st st21 ?_
  show own_Go p e below T21 (mkF m 131 #[.val (.ref x), .val (.int (2 : Int32))] [(.ref b21)]) _
  refine own_st (fun t_ k_ => XS.dup X21.here hx rfl (hb hby d12_131) rfl rfl k_) ?_
  show own_Go p e below T21 (mkF m 132 #[.val (.ref x), .val (.int (2 : Int32))] [(.ref b21), (.ref b21)]) _
  refine own_st (fun t_ k_ => XS.aloadN X21.here hx rfl (hb hby d12_132) rfl rfl k_) ?_
  show own_Go p e below T21 (mkF m 133 #[.val (.ref x), .val (.int (2 : Int32))] [(.ref x), (.ref b21), (.ref b21)]) _
  have f24 := (Nat.le_trans f4 E21.1)
  obtain ⟨_, _, ⟨T25, L25, k25, n25⟩, -, X25, ⟨Lc25, hQ25, l25, y25, z25⟩, st25⟩ := X21.specialBack hx (y := (⟨"com/example/faithful_courier/faithfulcourier/core/Name", "<init>", "(Ljava/lang/String;)V"⟩ : MethodName)) rfl hown (mvT hZ (hw _ (List.mem_of_getElem? (i := 101) rfl))) (mvT hZ (hw _ (List.mem_of_getElem? (i := 102) rfl))) (mvT hZ (hw _ (List.mem_of_getElem? (i := 103) rfl))) (by decide) (backOf (W := 1) (rmNi l Z a0 hw [] b21 x .null h21 n0 f24 A21 D21_text G21) hZ (hw _ (List.mem_of_getElem? (i := 103) rfl)) (hw _ (List.mem_of_getElem? (i := 51) rfl)) (by decide) (by decide)) (g := (mkF m 133 #[.val (.ref x), .val (.int (2 : Int32))] [(.ref x), (.ref b21), (.ref b21)])) rfl (by rw [hml]; rfl) (Steps.refl _) (a := b21) (argsL := [(.ref x)]) (rest := [(.ref b21)]) (lenOf pd__Ljava_lang_String__V rfl) rfl (by show 2 * 0 + _ ≤ _; exact Nat.le_of_eq rfl) (hb hby d12_133) (fun _ _ => ⟨rfl, e21, (by decide : 3 + 0 ≤ _), (by decide : 21 + 0 ≤ _)⟩)
  dsimp only [Pt.U, Pt.locs, Pt.cells, Pt.slots] at X25 l25 y25 z25 st25 hQ25
  try dsimp only [Nat.reduceAdd] at y25 z25
  rw [l25, y25, z25] at X25
  obtain ⟨rfl, Nq25, Kq25, q25_0, q25_1⟩ := hQ25
  have N25 := Fr.app N20 Nq25
  have Sa26 : ∀ y ∈ [b21], Safe Z own_EL T1.vm h21 y := (sfS (Safe.exa hZ.alike A21 (by decide) (by decide)) sf0)
  have CH26 := CH22.keep Kq25 Sa26
  have CR26 := CHr.trans CR22 (CHr.keep Kq25 Sa26 CH22)
  have K27 : Keep h0 T25.heap [] := K23.trans Kq25 (allS (Or.inr B21) all0)
  refine own_tr st25 ?_
  show own_Go p e below T25 (mkF m 136 #[.val (.ref x), .val (.int (2 : Int32))] [(.ref b21)]) _
  have f28 := (Nat.le_trans (Nat.le_trans hk1 E21.1) Kq25.1)
  obtain ⟨fs, hr, hrun, hended, hRW⟩ := X25.leaveW hS f28 (v := some (.ref b21)) (fun h => by rw [Bd.returns] at h; cases h)
  have hCend : CHr Z own_EL s.vm s.heap T25.vm T25.heap := by
    rw [hh]
    exact CHr.trans CR26 (CHv.at X25 hZ hEL CH26)
  refine own_fin (own_retR X25 hx rfl Bd.returns rfl (hb hby d12_136) hr) ⟨hrun, hended, _, _, rfl, ?_, hCend, hRW.1, hRW.2.1, hRW.2.2.1, hRW.2.2.2.mono (by decide) (by decide)⟩
  show Q_rmOf2 Z x tx kx c0 c1 zc fm h0 n0 _ T25.heap _
  exact ⟨b21, rfl, N25, K27, q25_0, q25_1, B21, G21⟩
theorem ef_rmOf3 (m : MethodId) (x0 : Addr) : entryFrame m #[(.ref x0)] 2 = mkF m 0 #[.val (.ref x0), .unset] [] := by first | (simp [entryFrame, mkF, argsToLocals, Value.category]; done) | rfl
def Q_rmOf3 (Z : State) (x : Addr) (tx : Addr) (kx : ClassId) (c0 : Int32) (c1 : Int32) (c2 : Int32) (zc : Int32) (fm : Value) (h0 : Heap) (n0 : Nat) (v : Option Value) (h : Heap) (L : List Loc) : Prop := ∃ b : Addr, v = some (.ref b) ∧ Fr n0 L ∧ Keep h0 h [] ∧ Exa Z h b "com/example/faithful_courier/faithfulcourier/core/Name" ∧ Fld Z h b "com/example/faithful_courier/faithfulcourier/core/Name" "text" "Ljava/lang/String;" (.ref x) ∧ h0.size ≤ b ∧ n0 ≤ b
set_option maxRecDepth 65536 in
set_option maxHeartbeats 40000000 in
theorem rmOf3 (l : Launch) (Z : State) (a0 : Array Value) (hw : ∀ d ∈ tables_1, d.before a0 Z = true) (ws : List Jvm.Cond) (x : Addr) (tx : Addr) (kx : ClassId) (c0 : Int32) (c1 : Int32) (c2 : Int32) (zc : Int32) (fm : Value) (h0 : Heap) (n0 : Nat) (Z0 : n0 ≤ h0.size) (pE_x : Exa Z h0 x "java/lang/String") (pF_value_x : Fld Z h0 x "java/lang/String" "value" "[B" (.ref tx)) (pF_coder_x : Fld Z h0 x "java/lang/String" "coder" "B" (.int (0 : Int32))) (pV_tx : Arv Z h0 tx kx .byte (3 : Int32) ((([c0, c1, c2] : List Int32).map (fun c => c.toInt8.toInt32)).map Value.int) (.int 0)) (hp_x : (∀ c ∈ ([c0, c1, c2] : List Int32), ¬ c < 0 ∧ ¬ (255 : Int32) < c)) (al_c0 : (own_al c0)) (al_c1 : (own_al c1)) (al_c2 : (own_al c2)) (pS_COMPACT_STRINGS : Sta Z Z.heap "java/lang/String" "COMPACT_STRINGS" "Z" (.int zc)) (pP5 : (¬ (zc = (0 : Int32)))) (pS_SIOOBE_FORMATTER : Sta Z Z.heap "jdk/internal/util/Preconditions" "SIOOBE_FORMATTER" "Ljava/util/function/BiFunction;" fm) (rfm : (fm.isRef = true)) (pO : Old Z n0 h0) :
    MetFree l (⟨"com/example/faithful_courier/faithfulcourier/core/Name", "of", "(Ljava/lang/String;)Lcom/example/faithful_courier/faithfulcourier/core/Name;"⟩ : MethodName) (head1 (Jvm.Cond.code (⟨"com/example/faithful_courier/faithfulcourier/core/Name", "of", "(Ljava/lang/String;)Lcom/example/faithful_courier/faithfulcourier/core/Name;"⟩ : MethodName) prog_2_method_2_code 2 (some (.object "com/example/faithful_courier/faithfulcourier/core/Name")) :: ws) ({ frames := 4, cells := 3, slots := 21, locals := 53 } : Room)) (fun a U => a = #[(.ref x)] ∧ Z.Warmed39 U.vm ∧ U.heap = h0 ∧ CHv Z own_EL U.vm h0) (fun _ _ _ _ _ => True) (fun _ U o U' => ∃ v L, o = .returned v ∧ Q_rmOf3 Z x tx kx c0 c1 c2 zc fm h0 n0 v U'.heap L ∧ CHr Z own_EL U.vm U.heap U'.vm U'.heap ∧ ReturnedEndW U o U' L ({ frames := 4, cells := 3, slots := 21, locals := 53 } : Room).cells ({ frames := 4, cells := 3, slots := 21, locals := 53 } : Room).slots) := by
  refine MetFree.of_bodySF (plainFor_of_name pn_12) hisR ?_
  intro p e s m args below meth c s₁ Bd hml0 hP hK
  obtain ⟨rfl, hZ, hh, hCH⟩ := hP
  have hx := Bd.exec
  have hby := Bd.bytes
  have hml : c.maxLocals = 2 := hml0
  have hown : s.vm.findClass "com/example/faithful_courier/faithfulcourier/core/Name" = some m.cls := findClass_of_methodNamed Bd.named
  have hnm := (name_of_methodNamed Bd.named Bd.method).1
  have X0 : Stand p l e ({ frames := 4, cells := 3, slots := 21, locals := 53 } : Room) (s.setVm s.vm) m #[(.ref x)] below meth c s₁ [] 0 0 := Stand.of_body Bd
  have e0 : s₁.heap = h0 := by rw [← hh, Bd.state]; rfl
  have N0 := Fr.nil n0
  have hEL := own_EW hw
  have hCR := CHr.refl hCH
  have hS : s.Since s.vm h0.size := (State.WarmedH.refl s).since _
  have hK0 : h0.size ≤ h0.size := Nat.le_refl _
  refine own_enter (ef_rmOf3 m x) ?_
  have hln : ∀ d ∈ StrChars.Road.wordsLen, d.before a0 Z = true := fun d hd => hw d ((by decide +kernel : ∀ d ∈ StrChars.Road.wordsLen, d ∈ tables_1) d hd)
  have hch : ∀ d ∈ StrChars.Road.wordsChN, d.before a0 Z = true := fun d hd => hw d ((by decide +kernel : ∀ d ∈ StrChars.Road.wordsChN, d ∈ tables_1) d hd)
  have hem : ∀ d ∈ StrChars.Road.wordsEmp, d.before a0 Z = true := fun d hd => hw d ((by decide +kernel : ∀ d ∈ StrChars.Road.wordsEmp, d ∈ tables_1) d hd)
  refine own_st (fun t_ k_ => XS.aloadN X0.here hx rfl (hb hby d12_0) rfl rfl k_) ?_
  show own_Go p e below s₁ (mkF m 1 #[.val (.ref x), .unset] [(.ref x)]) _
  obtain ⟨b1, T1, h1, k1, X1, e1, E1, hS, hk1, hZ, hown, A1, -, st1⟩ := ldcOH X0 hx hZ hown (hw _ (List.mem_of_getElem? (i := 53) rfl)) (own_wS hw) e0 hS hK0 hEL hCH (g := (mkF m 1 #[.val (.ref x), .unset] [(.ref x)])) rfl (hb hby d12_1) (n := 16) (by decide) (by decide) (by decide) (by decide)
  have CH2 := A1.1
  have CR2 := CHr.trans hCR (A1)
  have K3 : Keep h0 h1 [] := (Keep.refl h0 []).ext E1
  refine own_st st1 ?_
  show own_Go p e below T1 (mkF m 3 #[.val (.ref x), .unset] [(.ref b1), (.ref x)]) _
  have f4 := (Nat.le_trans Z0 E1.1)
  obtain ⟨_, _, ⟨T5, L5, k5, n5⟩, -, X5, ⟨Lc5, hQ5, l5, y5, z5⟩, st5⟩ := Jvm.LawKit.callS X1 hx (y := (⟨"java/util/Objects", "requireNonNull", "(Ljava/lang/Object;Ljava/lang/String;)Ljava/lang/Object;"⟩ : MethodName)) hown (mvT hZ (hw _ (List.mem_of_getElem? (i := 56) rfl))) (mvT hZ (hw _ (List.mem_of_getElem? (i := 57) rfl))) (mvT hZ (hw _ (List.mem_of_getElem? (i := 58) rfl))) (mvT hZ (hw _ (List.mem_of_getElem? (i := 59) rfl))) (by decide) (backOf (W := 0) (rmRn l Z a0 hw [] x b1 h1 n0 f4 ) hZ (hw _ (List.mem_of_getElem? (i := 59) rfl)) (hw _ (List.mem_of_getElem? (i := 58) rfl)) (by decide) (by decide)) (g := (mkF m 3 #[.val (.ref x), .unset] [(.ref b1), (.ref x)])) rfl (by rw [hml]; rfl) (argsL := [(.ref x), (.ref b1)]) (rest := []) (lenOf pd__Ljava_lang_Object_Ljava_lang_String__Ljava_lang_Object_ rfl) rfl (by show 2 * 0 + _ ≤ _; exact Nat.le_of_eq rfl) (hb hby d12_3) (fun _ _ => ⟨rfl, e1, (by decide : 2 + 0 ≤ _), (by decide : 20 + 0 ≤ _)⟩)
  dsimp only [Pt.U, Pt.locs, Pt.cells, Pt.slots] at X5 l5 y5 z5 st5 hQ5
  try dsimp only [Nat.reduceAdd] at y5 z5
  rw [l5, y5, z5] at X5
  obtain ⟨rfl, Nq5, eH5⟩ := hQ5
  have N5 := Fr.app N0 Nq5
  refine own_st st5 ?_
  show own_Go p e below T5 (mkF m 6 #[.val (.ref x), .unset] [(.ref x)]) _
  refine own_st (fun t_ k_ => XS.pop X5.here hx rfl (hb hby d12_6) rfl rfl k_) ?_
  show own_Go p e below T5 (mkF m 7 #[.val (.ref x), .unset] []) _
  refine own_st (fun t_ k_ => XS.iconst X5.here hx rfl (hb hby d12_7) k_) ?_
  show own_Go p e below T5 (mkF m 8 #[.val (.ref x), .unset] [(.int (0 : Int32))]) _
  refine own_st (fun t_ k_ => XS.istoreN X5.here hx rfl (hb hby d12_8) rfl (l' := #[.val (.ref x), .val (.int (0 : Int32))]) rfl k_) ?_
  show own_Go p e below T5 (mkF m 9 #[.val (.ref x), .val (.int (0 : Int32))] []) _
  refine own_st (fun t_ k_ => XS.iloadN X5.here hx rfl (hb hby d12_9) rfl k_) ?_
  show own_Go p e below T5 (mkF m 10 #[.val (.ref x), .val (.int (0 : Int32))] [(.int (0 : Int32))]) _
  refine own_st (fun t_ k_ => XS.aloadN X5.here hx rfl (hb hby d12_10) rfl rfl k_) ?_
  show own_Go p e below T5 (mkF m 11 #[.val (.ref x), .val (.int (0 : Int32))] [(.ref x), (.int (0 : Int32))]) _
  have hcd6 : StrChars.Road.CodA ([c0, c1, c2] : List Int32) 0 (3 : Int32) ((([c0, c1, c2] : List Int32).map (fun c => c.toInt8.toInt32)).map Value.int) := StrChars.Road.codOf rfl (fun x hx => (hp_x x hx).2)
  have hbd6 : ∀ x ∈ ([c0, c1, c2] : List Int32), ¬ x < 0 ∧ ¬ (65535 : Int32) < x := own_up _ hp_x
  have f7 := (pE_x.ext E1)
  have f8 := (pF_value_x.ext E1)
  have f9 := (pF_coder_x.ext E1)
  have f10 := (pV_tx.ext E1)
  have f11 := (pO.ext E1)
  obtain ⟨cq12, kq12, qa12, qb12, qc12⟩ := isOf hZ eH5 f7
  obtain ⟨_, _, ⟨T12, L12, k12, n12⟩, -, X12, ⟨Lc12, hQ12, l12, y12, z12⟩, st12⟩ := X5.virtualBack hx (y := (⟨"java/lang/String", "length", "()I"⟩ : MethodName)) (z := (⟨"java/lang/String", "length", "()I"⟩ : MethodName)) hown (mvT hZ (hw _ (List.mem_of_getElem? (i := 60) rfl))) (mvT hZ (hw _ (List.mem_of_getElem? (i := 61) rfl))) (notFace_of_selects (args := #[]) (mvT hZ (hw _ (List.mem_of_getElem? (i := 63) rfl)))) (mvT hZ (hw _ (List.mem_of_getElem? (i := 63) rfl))) (mvT hZ (hw _ (List.mem_of_getElem? (i := 62) rfl))) (by decide) (StrChars.Road.lenW (W := 1) hZ hln (kI := 4) (hw _ (List.mem_of_getElem? (i := 7) rfl)) f7 f8 f9 f10 hcd6 hbd6 (pS_COMPACT_STRINGS.ext f11.2) pP5 (Nat.le_of_ble_eq_true rfl) (by decide) (by decide)) qa12 qc12 (g := (mkF m 11 #[.val (.ref x), .val (.int (0 : Int32))] [(.ref x), (.int (0 : Int32))])) rfl (by rw [hml]; rfl) (Steps.refl _) (argsL := []) (rest := [(.int (0 : Int32))]) (lenOf pd___I rfl) rfl (by show 2 * 0 + _ ≤ _; exact Nat.le_of_eq rfl) (hb hby d12_11) (fun _ _ => ⟨rfl, eH5, (by decide : 2 + 0 ≤ _), (by decide : 20 + 0 ≤ _)⟩)
  dsimp only [Pt.U, Pt.locs, Pt.cells, Pt.slots] at X12 l12 y12 z12 st12 hQ12
  try dsimp only [Nat.reduceAdd] at y12 z12
  rw [l12, y12, z12] at X12
  obtain ⟨rfl, rfl, eH12⟩ := hQ12
  have N12 := Fr.app N5 (Fr.nil n0)
  refine own_tr st12 ?_
  show own_Go p e below T12 (mkF m 14 #[.val (.ref x), .val (.int (0 : Int32))] [(.int (3 : Int32)), (.int (0 : Int32))]) _
  refine own_st (fun t_ k_ => XS.icmpNo X12.here hx rfl (hb hby d12_14) rfl (by decide) k_) ?_
  show own_Go p e below T12 (mkF m 17 #[.val (.ref x), .val (.int (0 : Int32))] []) _
  refine own_st (fun t_ k_ => XS.aloadN X12.here hx rfl (hb hby d12_17) rfl rfl k_) ?_
  show own_Go p e below T12 (mkF m 18 #[.val (.ref x), .val (.int (0 : Int32))] [(.ref x)]) _
  refine own_st (fun t_ k_ => XS.iloadN X12.here hx rfl (hb hby d12_18) rfl k_) ?_
  show own_Go p e below T12 (mkF m 19 #[.val (.ref x), .val (.int (0 : Int32))] [(.int (0 : Int32)), (.ref x)]) _
  obtain ⟨cq13, kq13, qa13, qb13, qc13⟩ := isOf hZ eH12 f7
  obtain ⟨_, _, ⟨T13, L13, k13, n13⟩, -, X13, ⟨Lc13, hQ13, l13, y13, z13⟩, st13⟩ := X12.virtualBack hx (y := (⟨"java/lang/String", "charAt", "(I)C"⟩ : MethodName)) (z := (⟨"java/lang/String", "charAt", "(I)C"⟩ : MethodName)) hown (mvT hZ (hw _ (List.mem_of_getElem? (i := 70) rfl))) (mvT hZ (hw _ (List.mem_of_getElem? (i := 71) rfl))) (notFace_of_selects (args := #[]) (mvT hZ (hw _ (List.mem_of_getElem? (i := 73) rfl)))) (mvT hZ (hw _ (List.mem_of_getElem? (i := 73) rfl))) (mvT hZ (hw _ (List.mem_of_getElem? (i := 72) rfl))) (by decide) (StrChars.Road.chN (W := 0) hZ hch (kI := 4) (hw _ (List.mem_of_getElem? (i := 7) rfl)) f7 f8 f9 f10 hcd6 hbd6 (pS_COMPACT_STRINGS.ext f11.2) pP5 (pS_SIOOBE_FORMATTER.ext f11.2) rfm (Nat.le_of_ble_eq_true rfl) (i := 0) (Nat.le_of_ble_eq_true rfl) (j := (0 : Int32)) rfl (by decide) (by decide)) qa13 qc13 (g := (mkF m 19 #[.val (.ref x), .val (.int (0 : Int32))] [(.int (0 : Int32)), (.ref x)])) rfl (by rw [hml]; rfl) (Steps.refl _) (argsL := [(.int (0 : Int32))]) (rest := []) (lenOf pd__I_C rfl) rfl (by show 2 * 0 + _ ≤ _; exact Nat.le_of_eq rfl) (hb hby d12_19) (fun _ _ => ⟨rfl, eH12, (by decide : 2 + 0 ≤ _), (by decide : 20 + 0 ≤ _)⟩)
  dsimp only [Pt.U, Pt.locs, Pt.cells, Pt.slots] at X13 l13 y13 z13 st13 hQ13
  try dsimp only [Nat.reduceAdd] at y13 z13
  rw [l13, y13, z13] at X13
  obtain ⟨rfl, rfl, eH13⟩ := hQ13
  have N13 := Fr.app N12 (Fr.nil n0)
  refine own_tr st13 ?_
  show own_Go p e below T13 (mkF m 22 #[.val (.ref x), .val (.int (0 : Int32))] [(.int c0)]) _
  obtain ⟨_, _, ⟨T14, L14, k14, n14⟩, -, X14, ⟨Lc14, hQ14, l14, y14, z14⟩, st14⟩ := Jvm.LawKit.callS X13 hx (y := (⟨"com/example/faithful_courier/faithfulcourier/core/Name", "isAllowed", "(C)Z"⟩ : MethodName)) hown (mvT hZ (hw _ (List.mem_of_getElem? (i := 91) rfl))) (mvT hZ (hw _ (List.mem_of_getElem? (i := 92) rfl))) (mvT hZ (hw _ (List.mem_of_getElem? (i := 51) rfl))) (mvT hZ (hw _ (List.mem_of_getElem? (i := 93) rfl))) (by decide) (backOf (W := 0) (rmIa l Z a0 hw [] c0 h1 n0 f4 al_c0) hZ (hw _ (List.mem_of_getElem? (i := 93) rfl)) (hw _ (List.mem_of_getElem? (i := 51) rfl)) (by decide) (by decide)) (g := (mkF m 22 #[.val (.ref x), .val (.int (0 : Int32))] [(.int c0)])) rfl (by rw [hml]; rfl) (argsL := [(.int c0)]) (rest := []) (lenOf pd__C_Z rfl) rfl (by show 2 * 0 + _ ≤ _; exact Nat.le_of_eq rfl) (hb hby d12_22) (fun _ _ => ⟨rfl, eH13, (by decide : 2 + 0 ≤ _), (by decide : 20 + 0 ≤ _)⟩)
  dsimp only [Pt.U, Pt.locs, Pt.cells, Pt.slots] at X14 l14 y14 z14 st14 hQ14
  try dsimp only [Nat.reduceAdd] at y14 z14
  rw [l14, y14, z14] at X14
  obtain ⟨rfl, Nq14, eH14⟩ := hQ14
  have N14 := Fr.app N13 Nq14
  refine own_st st14 ?_
  show own_Go p e below T14 (mkF m 25 #[.val (.ref x), .val (.int (0 : Int32))] [(.int (1 : Int32))]) _
  refine own_st (fun t_ k_ => XS.ifYes X14.here hx rfl (pc0 := 25) (pc' := 68) rfl (hb hby d12_25) rfl (by decide) (by decide) (by decide) k_) ?_
  show own_Go p e below T14 (mkF m 68 #[.val (.ref x), .val (.int (0 : Int32))] []) _
  refine own_st (fun t_ k_ => XS.iinc X14.here hx rfl (hb hby d12_68) rfl (l' := #[.val (.ref x), .val (.int (1 : Int32))]) rfl k_) ?_
  show own_Go p e below T14 (mkF m 71 #[.val (.ref x), .val (.int (1 : Int32))] []) _
  refine own_st (fun t_ k_ => XS.goto X14.here hx rfl (pc0 := 71) (pc' := 9) rfl (hb hby d12_71) (by decide) (by decide) k_) ?_
  show own_Go p e below T14 (mkF m 9 #[.val (.ref x), .val (.int (1 : Int32))] []) _
  refine own_st (fun t_ k_ => XS.iloadN X14.here hx rfl (hb hby d12_9) rfl k_) ?_
  show own_Go p e below T14 (mkF m 10 #[.val (.ref x), .val (.int (1 : Int32))] [(.int (1 : Int32))]) _
  refine own_st (fun t_ k_ => XS.aloadN X14.here hx rfl (hb hby d12_10) rfl rfl k_) ?_
  show own_Go p e below T14 (mkF m 11 #[.val (.ref x), .val (.int (1 : Int32))] [(.ref x), (.int (1 : Int32))]) _
  obtain ⟨cq15, kq15, qa15, qb15, qc15⟩ := isOf hZ eH14 f7
  obtain ⟨_, _, ⟨T15, L15, k15, n15⟩, -, X15, ⟨Lc15, hQ15, l15, y15, z15⟩, st15⟩ := X14.virtualBack hx (y := (⟨"java/lang/String", "length", "()I"⟩ : MethodName)) (z := (⟨"java/lang/String", "length", "()I"⟩ : MethodName)) hown (mvT hZ (hw _ (List.mem_of_getElem? (i := 60) rfl))) (mvT hZ (hw _ (List.mem_of_getElem? (i := 61) rfl))) (notFace_of_selects (args := #[]) (mvT hZ (hw _ (List.mem_of_getElem? (i := 63) rfl)))) (mvT hZ (hw _ (List.mem_of_getElem? (i := 63) rfl))) (mvT hZ (hw _ (List.mem_of_getElem? (i := 62) rfl))) (by decide) (StrChars.Road.lenW (W := 1) hZ hln (kI := 4) (hw _ (List.mem_of_getElem? (i := 7) rfl)) f7 f8 f9 f10 hcd6 hbd6 (pS_COMPACT_STRINGS.ext f11.2) pP5 (Nat.le_of_ble_eq_true rfl) (by decide) (by decide)) qa15 qc15 (g := (mkF m 11 #[.val (.ref x), .val (.int (1 : Int32))] [(.ref x), (.int (1 : Int32))])) rfl (by rw [hml]; rfl) (Steps.refl _) (argsL := []) (rest := [(.int (1 : Int32))]) (lenOf pd___I rfl) rfl (by show 2 * 0 + _ ≤ _; exact Nat.le_of_eq rfl) (hb hby d12_11) (fun _ _ => ⟨rfl, eH14, (by decide : 2 + 0 ≤ _), (by decide : 20 + 0 ≤ _)⟩)
  dsimp only [Pt.U, Pt.locs, Pt.cells, Pt.slots] at X15 l15 y15 z15 st15 hQ15
  try dsimp only [Nat.reduceAdd] at y15 z15
  rw [l15, y15, z15] at X15
  obtain ⟨rfl, rfl, eH15⟩ := hQ15
  have N15 := Fr.app N14 (Fr.nil n0)
  refine own_tr st15 ?_
  show own_Go p e below T15 (mkF m 14 #[.val (.ref x), .val (.int (1 : Int32))] [(.int (3 : Int32)), (.int (1 : Int32))]) _
  refine own_st (fun t_ k_ => XS.icmpNo X15.here hx rfl (hb hby d12_14) rfl (by decide) k_) ?_
  show own_Go p e below T15 (mkF m 17 #[.val (.ref x), .val (.int (1 : Int32))] []) _
  refine own_st (fun t_ k_ => XS.aloadN X15.here hx rfl (hb hby d12_17) rfl rfl k_) ?_
  show own_Go p e below T15 (mkF m 18 #[.val (.ref x), .val (.int (1 : Int32))] [(.ref x)]) _
  refine own_st (fun t_ k_ => XS.iloadN X15.here hx rfl (hb hby d12_18) rfl k_) ?_
  show own_Go p e below T15 (mkF m 19 #[.val (.ref x), .val (.int (1 : Int32))] [(.int (1 : Int32)), (.ref x)]) _
  obtain ⟨cq16, kq16, qa16, qb16, qc16⟩ := isOf hZ eH15 f7
  obtain ⟨_, _, ⟨T16, L16, k16, n16⟩, -, X16, ⟨Lc16, hQ16, l16, y16, z16⟩, st16⟩ := X15.virtualBack hx (y := (⟨"java/lang/String", "charAt", "(I)C"⟩ : MethodName)) (z := (⟨"java/lang/String", "charAt", "(I)C"⟩ : MethodName)) hown (mvT hZ (hw _ (List.mem_of_getElem? (i := 70) rfl))) (mvT hZ (hw _ (List.mem_of_getElem? (i := 71) rfl))) (notFace_of_selects (args := #[]) (mvT hZ (hw _ (List.mem_of_getElem? (i := 73) rfl)))) (mvT hZ (hw _ (List.mem_of_getElem? (i := 73) rfl))) (mvT hZ (hw _ (List.mem_of_getElem? (i := 72) rfl))) (by decide) (StrChars.Road.chN (W := 0) hZ hch (kI := 4) (hw _ (List.mem_of_getElem? (i := 7) rfl)) f7 f8 f9 f10 hcd6 hbd6 (pS_COMPACT_STRINGS.ext f11.2) pP5 (pS_SIOOBE_FORMATTER.ext f11.2) rfm (Nat.le_of_ble_eq_true rfl) (i := 1) (Nat.le_of_ble_eq_true rfl) (j := (1 : Int32)) rfl (by decide) (by decide)) qa16 qc16 (g := (mkF m 19 #[.val (.ref x), .val (.int (1 : Int32))] [(.int (1 : Int32)), (.ref x)])) rfl (by rw [hml]; rfl) (Steps.refl _) (argsL := [(.int (1 : Int32))]) (rest := []) (lenOf pd__I_C rfl) rfl (by show 2 * 0 + _ ≤ _; exact Nat.le_of_eq rfl) (hb hby d12_19) (fun _ _ => ⟨rfl, eH15, (by decide : 2 + 0 ≤ _), (by decide : 20 + 0 ≤ _)⟩)
  dsimp only [Pt.U, Pt.locs, Pt.cells, Pt.slots] at X16 l16 y16 z16 st16 hQ16
  try dsimp only [Nat.reduceAdd] at y16 z16
  rw [l16, y16, z16] at X16
  obtain ⟨rfl, rfl, eH16⟩ := hQ16
  have N16 := Fr.app N15 (Fr.nil n0)
  refine own_tr st16 ?_
  show own_Go p e below T16 (mkF m 22 #[.val (.ref x), .val (.int (1 : Int32))] [(.int c1)]) _
  obtain ⟨_, _, ⟨T17, L17, k17, n17⟩, -, X17, ⟨Lc17, hQ17, l17, y17, z17⟩, st17⟩ := Jvm.LawKit.callS X16 hx (y := (⟨"com/example/faithful_courier/faithfulcourier/core/Name", "isAllowed", "(C)Z"⟩ : MethodName)) hown (mvT hZ (hw _ (List.mem_of_getElem? (i := 91) rfl))) (mvT hZ (hw _ (List.mem_of_getElem? (i := 92) rfl))) (mvT hZ (hw _ (List.mem_of_getElem? (i := 51) rfl))) (mvT hZ (hw _ (List.mem_of_getElem? (i := 93) rfl))) (by decide) (backOf (W := 0) (rmIa l Z a0 hw [] c1 h1 n0 f4 al_c1) hZ (hw _ (List.mem_of_getElem? (i := 93) rfl)) (hw _ (List.mem_of_getElem? (i := 51) rfl)) (by decide) (by decide)) (g := (mkF m 22 #[.val (.ref x), .val (.int (1 : Int32))] [(.int c1)])) rfl (by rw [hml]; rfl) (argsL := [(.int c1)]) (rest := []) (lenOf pd__C_Z rfl) rfl (by show 2 * 0 + _ ≤ _; exact Nat.le_of_eq rfl) (hb hby d12_22) (fun _ _ => ⟨rfl, eH16, (by decide : 2 + 0 ≤ _), (by decide : 20 + 0 ≤ _)⟩)
  dsimp only [Pt.U, Pt.locs, Pt.cells, Pt.slots] at X17 l17 y17 z17 st17 hQ17
  try dsimp only [Nat.reduceAdd] at y17 z17
  rw [l17, y17, z17] at X17
  obtain ⟨rfl, Nq17, eH17⟩ := hQ17
  have N17 := Fr.app N16 Nq17
  refine own_st st17 ?_
  show own_Go p e below T17 (mkF m 25 #[.val (.ref x), .val (.int (1 : Int32))] [(.int (1 : Int32))]) _
  refine own_st (fun t_ k_ => XS.ifYes X17.here hx rfl (pc0 := 25) (pc' := 68) rfl (hb hby d12_25) rfl (by decide) (by decide) (by decide) k_) ?_
  show own_Go p e below T17 (mkF m 68 #[.val (.ref x), .val (.int (1 : Int32))] []) _
  refine own_st (fun t_ k_ => XS.iinc X17.here hx rfl (hb hby d12_68) rfl (l' := #[.val (.ref x), .val (.int (2 : Int32))]) rfl k_) ?_
  show own_Go p e below T17 (mkF m 71 #[.val (.ref x), .val (.int (2 : Int32))] []) _
  refine own_st (fun t_ k_ => XS.goto X17.here hx rfl (pc0 := 71) (pc' := 9) rfl (hb hby d12_71) (by decide) (by decide) k_) ?_
  show own_Go p e below T17 (mkF m 9 #[.val (.ref x), .val (.int (2 : Int32))] []) _
  refine own_st (fun t_ k_ => XS.iloadN X17.here hx rfl (hb hby d12_9) rfl k_) ?_
  show own_Go p e below T17 (mkF m 10 #[.val (.ref x), .val (.int (2 : Int32))] [(.int (2 : Int32))]) _
  refine own_st (fun t_ k_ => XS.aloadN X17.here hx rfl (hb hby d12_10) rfl rfl k_) ?_
  show own_Go p e below T17 (mkF m 11 #[.val (.ref x), .val (.int (2 : Int32))] [(.ref x), (.int (2 : Int32))]) _
  obtain ⟨cq18, kq18, qa18, qb18, qc18⟩ := isOf hZ eH17 f7
  obtain ⟨_, _, ⟨T18, L18, k18, n18⟩, -, X18, ⟨Lc18, hQ18, l18, y18, z18⟩, st18⟩ := X17.virtualBack hx (y := (⟨"java/lang/String", "length", "()I"⟩ : MethodName)) (z := (⟨"java/lang/String", "length", "()I"⟩ : MethodName)) hown (mvT hZ (hw _ (List.mem_of_getElem? (i := 60) rfl))) (mvT hZ (hw _ (List.mem_of_getElem? (i := 61) rfl))) (notFace_of_selects (args := #[]) (mvT hZ (hw _ (List.mem_of_getElem? (i := 63) rfl)))) (mvT hZ (hw _ (List.mem_of_getElem? (i := 63) rfl))) (mvT hZ (hw _ (List.mem_of_getElem? (i := 62) rfl))) (by decide) (StrChars.Road.lenW (W := 1) hZ hln (kI := 4) (hw _ (List.mem_of_getElem? (i := 7) rfl)) f7 f8 f9 f10 hcd6 hbd6 (pS_COMPACT_STRINGS.ext f11.2) pP5 (Nat.le_of_ble_eq_true rfl) (by decide) (by decide)) qa18 qc18 (g := (mkF m 11 #[.val (.ref x), .val (.int (2 : Int32))] [(.ref x), (.int (2 : Int32))])) rfl (by rw [hml]; rfl) (Steps.refl _) (argsL := []) (rest := [(.int (2 : Int32))]) (lenOf pd___I rfl) rfl (by show 2 * 0 + _ ≤ _; exact Nat.le_of_eq rfl) (hb hby d12_11) (fun _ _ => ⟨rfl, eH17, (by decide : 2 + 0 ≤ _), (by decide : 20 + 0 ≤ _)⟩)
  dsimp only [Pt.U, Pt.locs, Pt.cells, Pt.slots] at X18 l18 y18 z18 st18 hQ18
  try dsimp only [Nat.reduceAdd] at y18 z18
  rw [l18, y18, z18] at X18
  obtain ⟨rfl, rfl, eH18⟩ := hQ18
  have N18 := Fr.app N17 (Fr.nil n0)
  refine own_tr st18 ?_
  show own_Go p e below T18 (mkF m 14 #[.val (.ref x), .val (.int (2 : Int32))] [(.int (3 : Int32)), (.int (2 : Int32))]) _
  refine own_st (fun t_ k_ => XS.icmpNo X18.here hx rfl (hb hby d12_14) rfl (by decide) k_) ?_
  show own_Go p e below T18 (mkF m 17 #[.val (.ref x), .val (.int (2 : Int32))] []) _
  refine own_st (fun t_ k_ => XS.aloadN X18.here hx rfl (hb hby d12_17) rfl rfl k_) ?_
  show own_Go p e below T18 (mkF m 18 #[.val (.ref x), .val (.int (2 : Int32))] [(.ref x)]) _
  refine own_st (fun t_ k_ => XS.iloadN X18.here hx rfl (hb hby d12_18) rfl k_) ?_
  show own_Go p e below T18 (mkF m 19 #[.val (.ref x), .val (.int (2 : Int32))] [(.int (2 : Int32)), (.ref x)]) _
  obtain ⟨cq19, kq19, qa19, qb19, qc19⟩ := isOf hZ eH18 f7
  obtain ⟨_, _, ⟨T19, L19, k19, n19⟩, -, X19, ⟨Lc19, hQ19, l19, y19, z19⟩, st19⟩ := X18.virtualBack hx (y := (⟨"java/lang/String", "charAt", "(I)C"⟩ : MethodName)) (z := (⟨"java/lang/String", "charAt", "(I)C"⟩ : MethodName)) hown (mvT hZ (hw _ (List.mem_of_getElem? (i := 70) rfl))) (mvT hZ (hw _ (List.mem_of_getElem? (i := 71) rfl))) (notFace_of_selects (args := #[]) (mvT hZ (hw _ (List.mem_of_getElem? (i := 73) rfl)))) (mvT hZ (hw _ (List.mem_of_getElem? (i := 73) rfl))) (mvT hZ (hw _ (List.mem_of_getElem? (i := 72) rfl))) (by decide) (StrChars.Road.chN (W := 0) hZ hch (kI := 4) (hw _ (List.mem_of_getElem? (i := 7) rfl)) f7 f8 f9 f10 hcd6 hbd6 (pS_COMPACT_STRINGS.ext f11.2) pP5 (pS_SIOOBE_FORMATTER.ext f11.2) rfm (Nat.le_of_ble_eq_true rfl) (i := 2) (Nat.le_of_ble_eq_true rfl) (j := (2 : Int32)) rfl (by decide) (by decide)) qa19 qc19 (g := (mkF m 19 #[.val (.ref x), .val (.int (2 : Int32))] [(.int (2 : Int32)), (.ref x)])) rfl (by rw [hml]; rfl) (Steps.refl _) (argsL := [(.int (2 : Int32))]) (rest := []) (lenOf pd__I_C rfl) rfl (by show 2 * 0 + _ ≤ _; exact Nat.le_of_eq rfl) (hb hby d12_19) (fun _ _ => ⟨rfl, eH18, (by decide : 2 + 0 ≤ _), (by decide : 20 + 0 ≤ _)⟩)
  dsimp only [Pt.U, Pt.locs, Pt.cells, Pt.slots] at X19 l19 y19 z19 st19 hQ19
  try dsimp only [Nat.reduceAdd] at y19 z19
  rw [l19, y19, z19] at X19
  obtain ⟨rfl, rfl, eH19⟩ := hQ19
  have N19 := Fr.app N18 (Fr.nil n0)
  refine own_tr st19 ?_
  show own_Go p e below T19 (mkF m 22 #[.val (.ref x), .val (.int (2 : Int32))] [(.int c2)]) _
  obtain ⟨_, _, ⟨T20, L20, k20, n20⟩, -, X20, ⟨Lc20, hQ20, l20, y20, z20⟩, st20⟩ := Jvm.LawKit.callS X19 hx (y := (⟨"com/example/faithful_courier/faithfulcourier/core/Name", "isAllowed", "(C)Z"⟩ : MethodName)) hown (mvT hZ (hw _ (List.mem_of_getElem? (i := 91) rfl))) (mvT hZ (hw _ (List.mem_of_getElem? (i := 92) rfl))) (mvT hZ (hw _ (List.mem_of_getElem? (i := 51) rfl))) (mvT hZ (hw _ (List.mem_of_getElem? (i := 93) rfl))) (by decide) (backOf (W := 0) (rmIa l Z a0 hw [] c2 h1 n0 f4 al_c2) hZ (hw _ (List.mem_of_getElem? (i := 93) rfl)) (hw _ (List.mem_of_getElem? (i := 51) rfl)) (by decide) (by decide)) (g := (mkF m 22 #[.val (.ref x), .val (.int (2 : Int32))] [(.int c2)])) rfl (by rw [hml]; rfl) (argsL := [(.int c2)]) (rest := []) (lenOf pd__C_Z rfl) rfl (by show 2 * 0 + _ ≤ _; exact Nat.le_of_eq rfl) (hb hby d12_22) (fun _ _ => ⟨rfl, eH19, (by decide : 2 + 0 ≤ _), (by decide : 20 + 0 ≤ _)⟩)
  dsimp only [Pt.U, Pt.locs, Pt.cells, Pt.slots] at X20 l20 y20 z20 st20 hQ20
  try dsimp only [Nat.reduceAdd] at y20 z20
  rw [l20, y20, z20] at X20
  obtain ⟨rfl, Nq20, eH20⟩ := hQ20
  have N20 := Fr.app N19 Nq20
  refine own_st st20 ?_
  show own_Go p e below T20 (mkF m 25 #[.val (.ref x), .val (.int (2 : Int32))] [(.int (1 : Int32))]) _
  refine own_st (fun t_ k_ => XS.ifYes X20.here hx rfl (pc0 := 25) (pc' := 68) rfl (hb hby d12_25) rfl (by decide) (by decide) (by decide) k_) ?_
  show own_Go p e below T20 (mkF m 68 #[.val (.ref x), .val (.int (2 : Int32))] []) _
  refine own_st (fun t_ k_ => XS.iinc X20.here hx rfl (hb hby d12_68) rfl (l' := #[.val (.ref x), .val (.int (3 : Int32))]) rfl k_) ?_
  show own_Go p e below T20 (mkF m 71 #[.val (.ref x), .val (.int (3 : Int32))] []) _
  refine own_st (fun t_ k_ => XS.goto X20.here hx rfl (pc0 := 71) (pc' := 9) rfl (hb hby d12_71) (by decide) (by decide) k_) ?_
  show own_Go p e below T20 (mkF m 9 #[.val (.ref x), .val (.int (3 : Int32))] []) _
  refine own_st (fun t_ k_ => XS.iloadN X20.here hx rfl (hb hby d12_9) rfl k_) ?_
  show own_Go p e below T20 (mkF m 10 #[.val (.ref x), .val (.int (3 : Int32))] [(.int (3 : Int32))]) _
  refine own_st (fun t_ k_ => XS.aloadN X20.here hx rfl (hb hby d12_10) rfl rfl k_) ?_
  show own_Go p e below T20 (mkF m 11 #[.val (.ref x), .val (.int (3 : Int32))] [(.ref x), (.int (3 : Int32))]) _
  obtain ⟨cq21, kq21, qa21, qb21, qc21⟩ := isOf hZ eH20 f7
  obtain ⟨_, _, ⟨T21, L21, k21, n21⟩, -, X21, ⟨Lc21, hQ21, l21, y21, z21⟩, st21⟩ := X20.virtualBack hx (y := (⟨"java/lang/String", "length", "()I"⟩ : MethodName)) (z := (⟨"java/lang/String", "length", "()I"⟩ : MethodName)) hown (mvT hZ (hw _ (List.mem_of_getElem? (i := 60) rfl))) (mvT hZ (hw _ (List.mem_of_getElem? (i := 61) rfl))) (notFace_of_selects (args := #[]) (mvT hZ (hw _ (List.mem_of_getElem? (i := 63) rfl)))) (mvT hZ (hw _ (List.mem_of_getElem? (i := 63) rfl))) (mvT hZ (hw _ (List.mem_of_getElem? (i := 62) rfl))) (by decide) (StrChars.Road.lenW (W := 1) hZ hln (kI := 4) (hw _ (List.mem_of_getElem? (i := 7) rfl)) f7 f8 f9 f10 hcd6 hbd6 (pS_COMPACT_STRINGS.ext f11.2) pP5 (Nat.le_of_ble_eq_true rfl) (by decide) (by decide)) qa21 qc21 (g := (mkF m 11 #[.val (.ref x), .val (.int (3 : Int32))] [(.ref x), (.int (3 : Int32))])) rfl (by rw [hml]; rfl) (Steps.refl _) (argsL := []) (rest := [(.int (3 : Int32))]) (lenOf pd___I rfl) rfl (by show 2 * 0 + _ ≤ _; exact Nat.le_of_eq rfl) (hb hby d12_11) (fun _ _ => ⟨rfl, eH20, (by decide : 2 + 0 ≤ _), (by decide : 20 + 0 ≤ _)⟩)
  dsimp only [Pt.U, Pt.locs, Pt.cells, Pt.slots] at X21 l21 y21 z21 st21 hQ21
  try dsimp only [Nat.reduceAdd] at y21 z21
  rw [l21, y21, z21] at X21
  obtain ⟨rfl, rfl, eH21⟩ := hQ21
  have N21 := Fr.app N20 (Fr.nil n0)
  refine own_tr st21 ?_
  show own_Go p e below T21 (mkF m 14 #[.val (.ref x), .val (.int (3 : Int32))] [(.int (3 : Int32)), (.int (3 : Int32))]) _
  refine own_st (fun t_ k_ => XS.icmpYes X21.here hx rfl (pc0 := 14) (pc' := 74) rfl (hb hby d12_14) rfl (by decide) (by decide) (by decide) k_) ?_
  show own_Go p e below T21 (mkF m 74 #[.val (.ref x), .val (.int (3 : Int32))] []) _
  refine own_st (fun t_ k_ => XS.aloadN X21.here hx rfl (hb hby d12_74) rfl rfl k_) ?_
  show own_Go p e below T21 (mkF m 75 #[.val (.ref x), .val (.int (3 : Int32))] [(.ref x)]) _
  obtain ⟨cq22, kq22, qa22, qb22, qc22⟩ := isOf hZ eH21 f7
  obtain ⟨_, _, ⟨T22, L22, k22, n22⟩, -, X22, ⟨Lc22, hQ22, l22, y22, z22⟩, st22⟩ := X21.virtualBack hx (y := (⟨"java/lang/String", "isEmpty", "()Z"⟩ : MethodName)) (z := (⟨"java/lang/String", "isEmpty", "()Z"⟩ : MethodName)) hown (mvT hZ (hw _ (List.mem_of_getElem? (i := 94) rfl))) (mvT hZ (hw _ (List.mem_of_getElem? (i := 95) rfl))) (notFace_of_selects (args := #[]) (mvT hZ (hw _ (List.mem_of_getElem? (i := 97) rfl)))) (mvT hZ (hw _ (List.mem_of_getElem? (i := 97) rfl))) (mvT hZ (hw _ (List.mem_of_getElem? (i := 96) rfl))) (by decide) (StrChars.Road.empW (W := 0) hZ hem (kI := 4) (hw _ (List.mem_of_getElem? (i := 7) rfl)) f7 f8 f9 f10 hcd6 hbd6 (Nat.le_of_ble_eq_true rfl) (by decide) (by decide)) qa22 qc22 (g := (mkF m 75 #[.val (.ref x), .val (.int (3 : Int32))] [(.ref x)])) rfl (by rw [hml]; rfl) (Steps.refl _) (argsL := []) (rest := []) (lenOf pd___Z rfl) rfl (by show 2 * 0 + _ ≤ _; exact Nat.le_of_eq rfl) (hb hby d12_75) (fun _ _ => ⟨rfl, eH21, (by decide : 2 + 0 ≤ _), (by decide : 20 + 0 ≤ _)⟩)
  dsimp only [Pt.U, Pt.locs, Pt.cells, Pt.slots] at X22 l22 y22 z22 st22 hQ22
  try dsimp only [Nat.reduceAdd] at y22 z22
  rw [l22, y22, z22] at X22
  obtain ⟨rfl, rfl, eH22⟩ := hQ22
  have N22 := Fr.app N21 (Fr.nil n0)
  refine own_tr st22 ?_
  show own_Go p e below T22 (mkF m 78 #[.val (.ref x), .val (.int (3 : Int32))] [(.int (0 : Int32))]) _
  refine own_st (fun t_ k_ => XS.ifNo X22.here hx rfl (hb hby d12_78) rfl (by decide) k_) ?_
  show own_Go p e below T22 (mkF m 81 #[.val (.ref x), .val (.int (3 : Int32))] []) _
  refine own_st (fun t_ k_ => XS.aloadN X22.here hx rfl (hb hby d12_81) rfl rfl k_) ?_
  show own_Go p e below T22 (mkF m 82 #[.val (.ref x), .val (.int (3 : Int32))] [(.ref x)]) _
  obtain ⟨cq23, kq23, qa23, qb23, qc23⟩ := isOf hZ eH22 f7
  obtain ⟨_, _, ⟨T23, L23, k23, n23⟩, -, X23, ⟨Lc23, hQ23, l23, y23, z23⟩, st23⟩ := X22.virtualBack hx (y := (⟨"java/lang/String", "length", "()I"⟩ : MethodName)) (z := (⟨"java/lang/String", "length", "()I"⟩ : MethodName)) hown (mvT hZ (hw _ (List.mem_of_getElem? (i := 60) rfl))) (mvT hZ (hw _ (List.mem_of_getElem? (i := 61) rfl))) (notFace_of_selects (args := #[]) (mvT hZ (hw _ (List.mem_of_getElem? (i := 63) rfl)))) (mvT hZ (hw _ (List.mem_of_getElem? (i := 63) rfl))) (mvT hZ (hw _ (List.mem_of_getElem? (i := 62) rfl))) (by decide) (StrChars.Road.lenW (W := 0) hZ hln (kI := 4) (hw _ (List.mem_of_getElem? (i := 7) rfl)) f7 f8 f9 f10 hcd6 hbd6 (pS_COMPACT_STRINGS.ext f11.2) pP5 (Nat.le_of_ble_eq_true rfl) (by decide) (by decide)) qa23 qc23 (g := (mkF m 82 #[.val (.ref x), .val (.int (3 : Int32))] [(.ref x)])) rfl (by rw [hml]; rfl) (Steps.refl _) (argsL := []) (rest := []) (lenOf pd___I rfl) rfl (by show 2 * 0 + _ ≤ _; exact Nat.le_of_eq rfl) (hb hby d12_82) (fun _ _ => ⟨rfl, eH22, (by decide : 2 + 0 ≤ _), (by decide : 20 + 0 ≤ _)⟩)
  dsimp only [Pt.U, Pt.locs, Pt.cells, Pt.slots] at X23 l23 y23 z23 st23 hQ23
  try dsimp only [Nat.reduceAdd] at y23 z23
  rw [l23, y23, z23] at X23
  obtain ⟨rfl, rfl, eH23⟩ := hQ23
  have N23 := Fr.app N22 (Fr.nil n0)
  refine own_tr st23 ?_
  show own_Go p e below T23 (mkF m 85 #[.val (.ref x), .val (.int (3 : Int32))] [(.int (3 : Int32))]) _
  refine own_st (fun t_ k_ => XS.bipush X23.here hx rfl (hb hby d12_85) k_) ?_
  show own_Go p e below T23 (mkF m 87 #[.val (.ref x), .val (.int (3 : Int32))] [(.int (64 : Int32)), (.int (3 : Int32))]) _
  refine own_st (fun t_ k_ => XS.icmpYes X23.here hx rfl (pc0 := 87) (pc' := 128) rfl (hb hby d12_87) rfl (by decide) (by decide) (by decide) k_) ?_
  show own_Go p e below T23 (mkF m 128 #[.val (.ref x), .val (.int (3 : Int32))] []) _
  obtain ⟨T24, h24, X24, e24, E24, A24, D24, -, st24⟩ := newO X23 hx hZ hown (hw _ (List.mem_of_getElem? (i := 99) rfl)) (hw _ (List.mem_of_getElem? (i := 100) rfl)) (hw _ (List.mem_of_getElem? (i := 51) rfl)) eH23 (g := (mkF m 128 #[.val (.ref x), .val (.int (3 : Int32))] [])) rfl (hb hby d12_128) (by decide) (by decide)
  obtain ⟨b24, g24⟩ : ∃ z, z = h1.size := ⟨_, rfl⟩
  rw [← g24] at A24 D24 st24
  have G24 : n0 ≤ b24 := Nat.le_trans f4 (Nat.le_of_eq g24.symm)
  have B24 : h0.size ≤ b24 := Nat.le_trans K3.1 (Nat.le_of_eq g24.symm)
  have CH25 := CH2.ext E24
  have CR25 := CHr.trans CR2 (CHr.ext E24 CH2)
  have K26 : Keep h0 h24 [] := K3.ext E24
  have D24_text : Fld Z h24 b24 "com/example/faithful_courier/faithfulcourier/core/Name" "text" "Ljava/lang/String;" .null := D24 (Or.inr (hw _ (List.mem_of_getElem? (i := 106) rfl))) (ty := (.object "java/lang/String")) (by decide)
  refine own_st st24 ?_
  show own_Go p e below T24 (mkF m 131 #[.val (.ref x), .val (.int (3 : Int32))] [(.ref b24)]) _
  refine own_st (fun t_ k_ => XS.dup X24.here hx rfl (hb hby d12_131) rfl rfl k_) ?_
  show own_Go p e below T24 (mkF m 132 #[.val (.ref x), .val (.int (3 : Int32))] [(.ref b24), (.ref b24)]) _
  refine own_st (fun t_ k_ => XS.aloadN X24.here hx rfl (hb hby d12_132) rfl rfl k_) ?_
  show own_Go p e below T24 (mkF m 133 #[.val (.ref x), .val (.int (3 : Int32))] [(.ref x), (.ref b24), (.ref b24)]) _
  have f27 := (Nat.le_trans f4 E24.1)
  obtain ⟨_, _, ⟨T28, L28, k28, n28⟩, -, X28, ⟨Lc28, hQ28, l28, y28, z28⟩, st28⟩ := X24.specialBack hx (y := (⟨"com/example/faithful_courier/faithfulcourier/core/Name", "<init>", "(Ljava/lang/String;)V"⟩ : MethodName)) rfl hown (mvT hZ (hw _ (List.mem_of_getElem? (i := 101) rfl))) (mvT hZ (hw _ (List.mem_of_getElem? (i := 102) rfl))) (mvT hZ (hw _ (List.mem_of_getElem? (i := 103) rfl))) (by decide) (backOf (W := 1) (rmNi l Z a0 hw [] b24 x .null h24 n0 f27 A24 D24_text G24) hZ (hw _ (List.mem_of_getElem? (i := 103) rfl)) (hw _ (List.mem_of_getElem? (i := 51) rfl)) (by decide) (by decide)) (g := (mkF m 133 #[.val (.ref x), .val (.int (3 : Int32))] [(.ref x), (.ref b24), (.ref b24)])) rfl (by rw [hml]; rfl) (Steps.refl _) (a := b24) (argsL := [(.ref x)]) (rest := [(.ref b24)]) (lenOf pd__Ljava_lang_String__V rfl) rfl (by show 2 * 0 + _ ≤ _; exact Nat.le_of_eq rfl) (hb hby d12_133) (fun _ _ => ⟨rfl, e24, (by decide : 3 + 0 ≤ _), (by decide : 21 + 0 ≤ _)⟩)
  dsimp only [Pt.U, Pt.locs, Pt.cells, Pt.slots] at X28 l28 y28 z28 st28 hQ28
  try dsimp only [Nat.reduceAdd] at y28 z28
  rw [l28, y28, z28] at X28
  obtain ⟨rfl, Nq28, Kq28, q28_0, q28_1⟩ := hQ28
  have N28 := Fr.app N23 Nq28
  have Sa29 : ∀ y ∈ [b24], Safe Z own_EL T1.vm h24 y := (sfS (Safe.exa hZ.alike A24 (by decide) (by decide)) sf0)
  have CH29 := CH25.keep Kq28 Sa29
  have CR29 := CHr.trans CR25 (CHr.keep Kq28 Sa29 CH25)
  have K30 : Keep h0 T28.heap [] := K26.trans Kq28 (allS (Or.inr B24) all0)
  refine own_tr st28 ?_
  show own_Go p e below T28 (mkF m 136 #[.val (.ref x), .val (.int (3 : Int32))] [(.ref b24)]) _
  have f31 := (Nat.le_trans (Nat.le_trans hk1 E24.1) Kq28.1)
  obtain ⟨fs, hr, hrun, hended, hRW⟩ := X28.leaveW hS f31 (v := some (.ref b24)) (fun h => by rw [Bd.returns] at h; cases h)
  have hCend : CHr Z own_EL s.vm s.heap T28.vm T28.heap := by
    rw [hh]
    exact CHr.trans CR29 (CHv.at X28 hZ hEL CH29)
  refine own_fin (own_retR X28 hx rfl Bd.returns rfl (hb hby d12_136) hr) ⟨hrun, hended, _, _, rfl, ?_, hCend, hRW.1, hRW.2.1, hRW.2.2.1, hRW.2.2.2.mono (by decide) (by decide)⟩
  show Q_rmOf3 Z x tx kx c0 c1 c2 zc fm h0 n0 _ T28.heap _
  exact ⟨b24, rfl, N28, K30, q28_0, q28_1, B24, G24⟩
theorem ef_rmOf4 (m : MethodId) (x0 : Addr) : entryFrame m #[(.ref x0)] 2 = mkF m 0 #[.val (.ref x0), .unset] [] := by first | (simp [entryFrame, mkF, argsToLocals, Value.category]; done) | rfl
def Q_rmOf4 (Z : State) (x : Addr) (tx : Addr) (kx : ClassId) (c0 : Int32) (c1 : Int32) (c2 : Int32) (c3 : Int32) (zc : Int32) (fm : Value) (h0 : Heap) (n0 : Nat) (v : Option Value) (h : Heap) (L : List Loc) : Prop := ∃ b : Addr, v = some (.ref b) ∧ Fr n0 L ∧ Keep h0 h [] ∧ Exa Z h b "com/example/faithful_courier/faithfulcourier/core/Name" ∧ Fld Z h b "com/example/faithful_courier/faithfulcourier/core/Name" "text" "Ljava/lang/String;" (.ref x) ∧ h0.size ≤ b ∧ n0 ≤ b
set_option maxRecDepth 65536 in
set_option maxHeartbeats 40000000 in
theorem rmOf4 (l : Launch) (Z : State) (a0 : Array Value) (hw : ∀ d ∈ tables_1, d.before a0 Z = true) (ws : List Jvm.Cond) (x : Addr) (tx : Addr) (kx : ClassId) (c0 : Int32) (c1 : Int32) (c2 : Int32) (c3 : Int32) (zc : Int32) (fm : Value) (h0 : Heap) (n0 : Nat) (Z0 : n0 ≤ h0.size) (pE_x : Exa Z h0 x "java/lang/String") (pF_value_x : Fld Z h0 x "java/lang/String" "value" "[B" (.ref tx)) (pF_coder_x : Fld Z h0 x "java/lang/String" "coder" "B" (.int (0 : Int32))) (pV_tx : Arv Z h0 tx kx .byte (4 : Int32) ((([c0, c1, c2, c3] : List Int32).map (fun c => c.toInt8.toInt32)).map Value.int) (.int 0)) (hp_x : (∀ c ∈ ([c0, c1, c2, c3] : List Int32), ¬ c < 0 ∧ ¬ (255 : Int32) < c)) (al_c0 : (own_al c0)) (al_c1 : (own_al c1)) (al_c2 : (own_al c2)) (al_c3 : (own_al c3)) (pS_COMPACT_STRINGS : Sta Z Z.heap "java/lang/String" "COMPACT_STRINGS" "Z" (.int zc)) (pP5 : (¬ (zc = (0 : Int32)))) (pS_SIOOBE_FORMATTER : Sta Z Z.heap "jdk/internal/util/Preconditions" "SIOOBE_FORMATTER" "Ljava/util/function/BiFunction;" fm) (rfm : (fm.isRef = true)) (pO : Old Z n0 h0) :
    MetFree l (⟨"com/example/faithful_courier/faithfulcourier/core/Name", "of", "(Ljava/lang/String;)Lcom/example/faithful_courier/faithfulcourier/core/Name;"⟩ : MethodName) (head1 (Jvm.Cond.code (⟨"com/example/faithful_courier/faithfulcourier/core/Name", "of", "(Ljava/lang/String;)Lcom/example/faithful_courier/faithfulcourier/core/Name;"⟩ : MethodName) prog_2_method_2_code 2 (some (.object "com/example/faithful_courier/faithfulcourier/core/Name")) :: ws) ({ frames := 4, cells := 3, slots := 21, locals := 53 } : Room)) (fun a U => a = #[(.ref x)] ∧ Z.Warmed39 U.vm ∧ U.heap = h0 ∧ CHv Z own_EL U.vm h0) (fun _ _ _ _ _ => True) (fun _ U o U' => ∃ v L, o = .returned v ∧ Q_rmOf4 Z x tx kx c0 c1 c2 c3 zc fm h0 n0 v U'.heap L ∧ CHr Z own_EL U.vm U.heap U'.vm U'.heap ∧ ReturnedEndW U o U' L ({ frames := 4, cells := 3, slots := 21, locals := 53 } : Room).cells ({ frames := 4, cells := 3, slots := 21, locals := 53 } : Room).slots) := by
  refine MetFree.of_bodySF (plainFor_of_name pn_12) hisR ?_
  intro p e s m args below meth c s₁ Bd hml0 hP hK
  obtain ⟨rfl, hZ, hh, hCH⟩ := hP
  have hx := Bd.exec
  have hby := Bd.bytes
  have hml : c.maxLocals = 2 := hml0
  have hown : s.vm.findClass "com/example/faithful_courier/faithfulcourier/core/Name" = some m.cls := findClass_of_methodNamed Bd.named
  have hnm := (name_of_methodNamed Bd.named Bd.method).1
  have X0 : Stand p l e ({ frames := 4, cells := 3, slots := 21, locals := 53 } : Room) (s.setVm s.vm) m #[(.ref x)] below meth c s₁ [] 0 0 := Stand.of_body Bd
  have e0 : s₁.heap = h0 := by rw [← hh, Bd.state]; rfl
  have N0 := Fr.nil n0
  have hEL := own_EW hw
  have hCR := CHr.refl hCH
  have hS : s.Since s.vm h0.size := (State.WarmedH.refl s).since _
  have hK0 : h0.size ≤ h0.size := Nat.le_refl _
  refine own_enter (ef_rmOf4 m x) ?_
  have hln : ∀ d ∈ StrChars.Road.wordsLen, d.before a0 Z = true := fun d hd => hw d ((by decide +kernel : ∀ d ∈ StrChars.Road.wordsLen, d ∈ tables_1) d hd)
  have hch : ∀ d ∈ StrChars.Road.wordsChN, d.before a0 Z = true := fun d hd => hw d ((by decide +kernel : ∀ d ∈ StrChars.Road.wordsChN, d ∈ tables_1) d hd)
  have hem : ∀ d ∈ StrChars.Road.wordsEmp, d.before a0 Z = true := fun d hd => hw d ((by decide +kernel : ∀ d ∈ StrChars.Road.wordsEmp, d ∈ tables_1) d hd)
  refine own_st (fun t_ k_ => XS.aloadN X0.here hx rfl (hb hby d12_0) rfl rfl k_) ?_
  show own_Go p e below s₁ (mkF m 1 #[.val (.ref x), .unset] [(.ref x)]) _
  obtain ⟨b1, T1, h1, k1, X1, e1, E1, hS, hk1, hZ, hown, A1, -, st1⟩ := ldcOH X0 hx hZ hown (hw _ (List.mem_of_getElem? (i := 53) rfl)) (own_wS hw) e0 hS hK0 hEL hCH (g := (mkF m 1 #[.val (.ref x), .unset] [(.ref x)])) rfl (hb hby d12_1) (n := 16) (by decide) (by decide) (by decide) (by decide)
  have CH2 := A1.1
  have CR2 := CHr.trans hCR (A1)
  have K3 : Keep h0 h1 [] := (Keep.refl h0 []).ext E1
  refine own_st st1 ?_
  show own_Go p e below T1 (mkF m 3 #[.val (.ref x), .unset] [(.ref b1), (.ref x)]) _
  have f4 := (Nat.le_trans Z0 E1.1)
  obtain ⟨_, _, ⟨T5, L5, k5, n5⟩, -, X5, ⟨Lc5, hQ5, l5, y5, z5⟩, st5⟩ := Jvm.LawKit.callS X1 hx (y := (⟨"java/util/Objects", "requireNonNull", "(Ljava/lang/Object;Ljava/lang/String;)Ljava/lang/Object;"⟩ : MethodName)) hown (mvT hZ (hw _ (List.mem_of_getElem? (i := 56) rfl))) (mvT hZ (hw _ (List.mem_of_getElem? (i := 57) rfl))) (mvT hZ (hw _ (List.mem_of_getElem? (i := 58) rfl))) (mvT hZ (hw _ (List.mem_of_getElem? (i := 59) rfl))) (by decide) (backOf (W := 0) (rmRn l Z a0 hw [] x b1 h1 n0 f4 ) hZ (hw _ (List.mem_of_getElem? (i := 59) rfl)) (hw _ (List.mem_of_getElem? (i := 58) rfl)) (by decide) (by decide)) (g := (mkF m 3 #[.val (.ref x), .unset] [(.ref b1), (.ref x)])) rfl (by rw [hml]; rfl) (argsL := [(.ref x), (.ref b1)]) (rest := []) (lenOf pd__Ljava_lang_Object_Ljava_lang_String__Ljava_lang_Object_ rfl) rfl (by show 2 * 0 + _ ≤ _; exact Nat.le_of_eq rfl) (hb hby d12_3) (fun _ _ => ⟨rfl, e1, (by decide : 2 + 0 ≤ _), (by decide : 20 + 0 ≤ _)⟩)
  dsimp only [Pt.U, Pt.locs, Pt.cells, Pt.slots] at X5 l5 y5 z5 st5 hQ5
  try dsimp only [Nat.reduceAdd] at y5 z5
  rw [l5, y5, z5] at X5
  obtain ⟨rfl, Nq5, eH5⟩ := hQ5
  have N5 := Fr.app N0 Nq5
  refine own_st st5 ?_
  show own_Go p e below T5 (mkF m 6 #[.val (.ref x), .unset] [(.ref x)]) _
  refine own_st (fun t_ k_ => XS.pop X5.here hx rfl (hb hby d12_6) rfl rfl k_) ?_
  show own_Go p e below T5 (mkF m 7 #[.val (.ref x), .unset] []) _
  refine own_st (fun t_ k_ => XS.iconst X5.here hx rfl (hb hby d12_7) k_) ?_
  show own_Go p e below T5 (mkF m 8 #[.val (.ref x), .unset] [(.int (0 : Int32))]) _
  refine own_st (fun t_ k_ => XS.istoreN X5.here hx rfl (hb hby d12_8) rfl (l' := #[.val (.ref x), .val (.int (0 : Int32))]) rfl k_) ?_
  show own_Go p e below T5 (mkF m 9 #[.val (.ref x), .val (.int (0 : Int32))] []) _
  refine own_st (fun t_ k_ => XS.iloadN X5.here hx rfl (hb hby d12_9) rfl k_) ?_
  show own_Go p e below T5 (mkF m 10 #[.val (.ref x), .val (.int (0 : Int32))] [(.int (0 : Int32))]) _
  refine own_st (fun t_ k_ => XS.aloadN X5.here hx rfl (hb hby d12_10) rfl rfl k_) ?_
  show own_Go p e below T5 (mkF m 11 #[.val (.ref x), .val (.int (0 : Int32))] [(.ref x), (.int (0 : Int32))]) _
  have hcd6 : StrChars.Road.CodA ([c0, c1, c2, c3] : List Int32) 0 (4 : Int32) ((([c0, c1, c2, c3] : List Int32).map (fun c => c.toInt8.toInt32)).map Value.int) := StrChars.Road.codOf rfl (fun x hx => (hp_x x hx).2)
  have hbd6 : ∀ x ∈ ([c0, c1, c2, c3] : List Int32), ¬ x < 0 ∧ ¬ (65535 : Int32) < x := own_up _ hp_x
  have f7 := (pE_x.ext E1)
  have f8 := (pF_value_x.ext E1)
  have f9 := (pF_coder_x.ext E1)
  have f10 := (pV_tx.ext E1)
  have f11 := (pO.ext E1)
  obtain ⟨cq12, kq12, qa12, qb12, qc12⟩ := isOf hZ eH5 f7
  obtain ⟨_, _, ⟨T12, L12, k12, n12⟩, -, X12, ⟨Lc12, hQ12, l12, y12, z12⟩, st12⟩ := X5.virtualBack hx (y := (⟨"java/lang/String", "length", "()I"⟩ : MethodName)) (z := (⟨"java/lang/String", "length", "()I"⟩ : MethodName)) hown (mvT hZ (hw _ (List.mem_of_getElem? (i := 60) rfl))) (mvT hZ (hw _ (List.mem_of_getElem? (i := 61) rfl))) (notFace_of_selects (args := #[]) (mvT hZ (hw _ (List.mem_of_getElem? (i := 63) rfl)))) (mvT hZ (hw _ (List.mem_of_getElem? (i := 63) rfl))) (mvT hZ (hw _ (List.mem_of_getElem? (i := 62) rfl))) (by decide) (StrChars.Road.lenW (W := 1) hZ hln (kI := 4) (hw _ (List.mem_of_getElem? (i := 7) rfl)) f7 f8 f9 f10 hcd6 hbd6 (pS_COMPACT_STRINGS.ext f11.2) pP5 (Nat.le_of_ble_eq_true rfl) (by decide) (by decide)) qa12 qc12 (g := (mkF m 11 #[.val (.ref x), .val (.int (0 : Int32))] [(.ref x), (.int (0 : Int32))])) rfl (by rw [hml]; rfl) (Steps.refl _) (argsL := []) (rest := [(.int (0 : Int32))]) (lenOf pd___I rfl) rfl (by show 2 * 0 + _ ≤ _; exact Nat.le_of_eq rfl) (hb hby d12_11) (fun _ _ => ⟨rfl, eH5, (by decide : 2 + 0 ≤ _), (by decide : 20 + 0 ≤ _)⟩)
  dsimp only [Pt.U, Pt.locs, Pt.cells, Pt.slots] at X12 l12 y12 z12 st12 hQ12
  try dsimp only [Nat.reduceAdd] at y12 z12
  rw [l12, y12, z12] at X12
  obtain ⟨rfl, rfl, eH12⟩ := hQ12
  have N12 := Fr.app N5 (Fr.nil n0)
  refine own_tr st12 ?_
  show own_Go p e below T12 (mkF m 14 #[.val (.ref x), .val (.int (0 : Int32))] [(.int (4 : Int32)), (.int (0 : Int32))]) _
  refine own_st (fun t_ k_ => XS.icmpNo X12.here hx rfl (hb hby d12_14) rfl (by decide) k_) ?_
  show own_Go p e below T12 (mkF m 17 #[.val (.ref x), .val (.int (0 : Int32))] []) _
  refine own_st (fun t_ k_ => XS.aloadN X12.here hx rfl (hb hby d12_17) rfl rfl k_) ?_
  show own_Go p e below T12 (mkF m 18 #[.val (.ref x), .val (.int (0 : Int32))] [(.ref x)]) _
  refine own_st (fun t_ k_ => XS.iloadN X12.here hx rfl (hb hby d12_18) rfl k_) ?_
  show own_Go p e below T12 (mkF m 19 #[.val (.ref x), .val (.int (0 : Int32))] [(.int (0 : Int32)), (.ref x)]) _
  obtain ⟨cq13, kq13, qa13, qb13, qc13⟩ := isOf hZ eH12 f7
  obtain ⟨_, _, ⟨T13, L13, k13, n13⟩, -, X13, ⟨Lc13, hQ13, l13, y13, z13⟩, st13⟩ := X12.virtualBack hx (y := (⟨"java/lang/String", "charAt", "(I)C"⟩ : MethodName)) (z := (⟨"java/lang/String", "charAt", "(I)C"⟩ : MethodName)) hown (mvT hZ (hw _ (List.mem_of_getElem? (i := 70) rfl))) (mvT hZ (hw _ (List.mem_of_getElem? (i := 71) rfl))) (notFace_of_selects (args := #[]) (mvT hZ (hw _ (List.mem_of_getElem? (i := 73) rfl)))) (mvT hZ (hw _ (List.mem_of_getElem? (i := 73) rfl))) (mvT hZ (hw _ (List.mem_of_getElem? (i := 72) rfl))) (by decide) (StrChars.Road.chN (W := 0) hZ hch (kI := 4) (hw _ (List.mem_of_getElem? (i := 7) rfl)) f7 f8 f9 f10 hcd6 hbd6 (pS_COMPACT_STRINGS.ext f11.2) pP5 (pS_SIOOBE_FORMATTER.ext f11.2) rfm (Nat.le_of_ble_eq_true rfl) (i := 0) (Nat.le_of_ble_eq_true rfl) (j := (0 : Int32)) rfl (by decide) (by decide)) qa13 qc13 (g := (mkF m 19 #[.val (.ref x), .val (.int (0 : Int32))] [(.int (0 : Int32)), (.ref x)])) rfl (by rw [hml]; rfl) (Steps.refl _) (argsL := [(.int (0 : Int32))]) (rest := []) (lenOf pd__I_C rfl) rfl (by show 2 * 0 + _ ≤ _; exact Nat.le_of_eq rfl) (hb hby d12_19) (fun _ _ => ⟨rfl, eH12, (by decide : 2 + 0 ≤ _), (by decide : 20 + 0 ≤ _)⟩)
  dsimp only [Pt.U, Pt.locs, Pt.cells, Pt.slots] at X13 l13 y13 z13 st13 hQ13
  try dsimp only [Nat.reduceAdd] at y13 z13
  rw [l13, y13, z13] at X13
  obtain ⟨rfl, rfl, eH13⟩ := hQ13
  have N13 := Fr.app N12 (Fr.nil n0)
  refine own_tr st13 ?_
  show own_Go p e below T13 (mkF m 22 #[.val (.ref x), .val (.int (0 : Int32))] [(.int c0)]) _
  obtain ⟨_, _, ⟨T14, L14, k14, n14⟩, -, X14, ⟨Lc14, hQ14, l14, y14, z14⟩, st14⟩ := Jvm.LawKit.callS X13 hx (y := (⟨"com/example/faithful_courier/faithfulcourier/core/Name", "isAllowed", "(C)Z"⟩ : MethodName)) hown (mvT hZ (hw _ (List.mem_of_getElem? (i := 91) rfl))) (mvT hZ (hw _ (List.mem_of_getElem? (i := 92) rfl))) (mvT hZ (hw _ (List.mem_of_getElem? (i := 51) rfl))) (mvT hZ (hw _ (List.mem_of_getElem? (i := 93) rfl))) (by decide) (backOf (W := 0) (rmIa l Z a0 hw [] c0 h1 n0 f4 al_c0) hZ (hw _ (List.mem_of_getElem? (i := 93) rfl)) (hw _ (List.mem_of_getElem? (i := 51) rfl)) (by decide) (by decide)) (g := (mkF m 22 #[.val (.ref x), .val (.int (0 : Int32))] [(.int c0)])) rfl (by rw [hml]; rfl) (argsL := [(.int c0)]) (rest := []) (lenOf pd__C_Z rfl) rfl (by show 2 * 0 + _ ≤ _; exact Nat.le_of_eq rfl) (hb hby d12_22) (fun _ _ => ⟨rfl, eH13, (by decide : 2 + 0 ≤ _), (by decide : 20 + 0 ≤ _)⟩)
  dsimp only [Pt.U, Pt.locs, Pt.cells, Pt.slots] at X14 l14 y14 z14 st14 hQ14
  try dsimp only [Nat.reduceAdd] at y14 z14
  rw [l14, y14, z14] at X14
  obtain ⟨rfl, Nq14, eH14⟩ := hQ14
  have N14 := Fr.app N13 Nq14
  refine own_st st14 ?_
  show own_Go p e below T14 (mkF m 25 #[.val (.ref x), .val (.int (0 : Int32))] [(.int (1 : Int32))]) _
  refine own_st (fun t_ k_ => XS.ifYes X14.here hx rfl (pc0 := 25) (pc' := 68) rfl (hb hby d12_25) rfl (by decide) (by decide) (by decide) k_) ?_
  show own_Go p e below T14 (mkF m 68 #[.val (.ref x), .val (.int (0 : Int32))] []) _
  refine own_st (fun t_ k_ => XS.iinc X14.here hx rfl (hb hby d12_68) rfl (l' := #[.val (.ref x), .val (.int (1 : Int32))]) rfl k_) ?_
  show own_Go p e below T14 (mkF m 71 #[.val (.ref x), .val (.int (1 : Int32))] []) _
  refine own_st (fun t_ k_ => XS.goto X14.here hx rfl (pc0 := 71) (pc' := 9) rfl (hb hby d12_71) (by decide) (by decide) k_) ?_
  show own_Go p e below T14 (mkF m 9 #[.val (.ref x), .val (.int (1 : Int32))] []) _
  refine own_st (fun t_ k_ => XS.iloadN X14.here hx rfl (hb hby d12_9) rfl k_) ?_
  show own_Go p e below T14 (mkF m 10 #[.val (.ref x), .val (.int (1 : Int32))] [(.int (1 : Int32))]) _
  refine own_st (fun t_ k_ => XS.aloadN X14.here hx rfl (hb hby d12_10) rfl rfl k_) ?_
  show own_Go p e below T14 (mkF m 11 #[.val (.ref x), .val (.int (1 : Int32))] [(.ref x), (.int (1 : Int32))]) _
  obtain ⟨cq15, kq15, qa15, qb15, qc15⟩ := isOf hZ eH14 f7
  obtain ⟨_, _, ⟨T15, L15, k15, n15⟩, -, X15, ⟨Lc15, hQ15, l15, y15, z15⟩, st15⟩ := X14.virtualBack hx (y := (⟨"java/lang/String", "length", "()I"⟩ : MethodName)) (z := (⟨"java/lang/String", "length", "()I"⟩ : MethodName)) hown (mvT hZ (hw _ (List.mem_of_getElem? (i := 60) rfl))) (mvT hZ (hw _ (List.mem_of_getElem? (i := 61) rfl))) (notFace_of_selects (args := #[]) (mvT hZ (hw _ (List.mem_of_getElem? (i := 63) rfl)))) (mvT hZ (hw _ (List.mem_of_getElem? (i := 63) rfl))) (mvT hZ (hw _ (List.mem_of_getElem? (i := 62) rfl))) (by decide) (StrChars.Road.lenW (W := 1) hZ hln (kI := 4) (hw _ (List.mem_of_getElem? (i := 7) rfl)) f7 f8 f9 f10 hcd6 hbd6 (pS_COMPACT_STRINGS.ext f11.2) pP5 (Nat.le_of_ble_eq_true rfl) (by decide) (by decide)) qa15 qc15 (g := (mkF m 11 #[.val (.ref x), .val (.int (1 : Int32))] [(.ref x), (.int (1 : Int32))])) rfl (by rw [hml]; rfl) (Steps.refl _) (argsL := []) (rest := [(.int (1 : Int32))]) (lenOf pd___I rfl) rfl (by show 2 * 0 + _ ≤ _; exact Nat.le_of_eq rfl) (hb hby d12_11) (fun _ _ => ⟨rfl, eH14, (by decide : 2 + 0 ≤ _), (by decide : 20 + 0 ≤ _)⟩)
  dsimp only [Pt.U, Pt.locs, Pt.cells, Pt.slots] at X15 l15 y15 z15 st15 hQ15
  try dsimp only [Nat.reduceAdd] at y15 z15
  rw [l15, y15, z15] at X15
  obtain ⟨rfl, rfl, eH15⟩ := hQ15
  have N15 := Fr.app N14 (Fr.nil n0)
  refine own_tr st15 ?_
  show own_Go p e below T15 (mkF m 14 #[.val (.ref x), .val (.int (1 : Int32))] [(.int (4 : Int32)), (.int (1 : Int32))]) _
  refine own_st (fun t_ k_ => XS.icmpNo X15.here hx rfl (hb hby d12_14) rfl (by decide) k_) ?_
  show own_Go p e below T15 (mkF m 17 #[.val (.ref x), .val (.int (1 : Int32))] []) _
  refine own_st (fun t_ k_ => XS.aloadN X15.here hx rfl (hb hby d12_17) rfl rfl k_) ?_
  show own_Go p e below T15 (mkF m 18 #[.val (.ref x), .val (.int (1 : Int32))] [(.ref x)]) _
  refine own_st (fun t_ k_ => XS.iloadN X15.here hx rfl (hb hby d12_18) rfl k_) ?_
  show own_Go p e below T15 (mkF m 19 #[.val (.ref x), .val (.int (1 : Int32))] [(.int (1 : Int32)), (.ref x)]) _
  obtain ⟨cq16, kq16, qa16, qb16, qc16⟩ := isOf hZ eH15 f7
  obtain ⟨_, _, ⟨T16, L16, k16, n16⟩, -, X16, ⟨Lc16, hQ16, l16, y16, z16⟩, st16⟩ := X15.virtualBack hx (y := (⟨"java/lang/String", "charAt", "(I)C"⟩ : MethodName)) (z := (⟨"java/lang/String", "charAt", "(I)C"⟩ : MethodName)) hown (mvT hZ (hw _ (List.mem_of_getElem? (i := 70) rfl))) (mvT hZ (hw _ (List.mem_of_getElem? (i := 71) rfl))) (notFace_of_selects (args := #[]) (mvT hZ (hw _ (List.mem_of_getElem? (i := 73) rfl)))) (mvT hZ (hw _ (List.mem_of_getElem? (i := 73) rfl))) (mvT hZ (hw _ (List.mem_of_getElem? (i := 72) rfl))) (by decide) (StrChars.Road.chN (W := 0) hZ hch (kI := 4) (hw _ (List.mem_of_getElem? (i := 7) rfl)) f7 f8 f9 f10 hcd6 hbd6 (pS_COMPACT_STRINGS.ext f11.2) pP5 (pS_SIOOBE_FORMATTER.ext f11.2) rfm (Nat.le_of_ble_eq_true rfl) (i := 1) (Nat.le_of_ble_eq_true rfl) (j := (1 : Int32)) rfl (by decide) (by decide)) qa16 qc16 (g := (mkF m 19 #[.val (.ref x), .val (.int (1 : Int32))] [(.int (1 : Int32)), (.ref x)])) rfl (by rw [hml]; rfl) (Steps.refl _) (argsL := [(.int (1 : Int32))]) (rest := []) (lenOf pd__I_C rfl) rfl (by show 2 * 0 + _ ≤ _; exact Nat.le_of_eq rfl) (hb hby d12_19) (fun _ _ => ⟨rfl, eH15, (by decide : 2 + 0 ≤ _), (by decide : 20 + 0 ≤ _)⟩)
  dsimp only [Pt.U, Pt.locs, Pt.cells, Pt.slots] at X16 l16 y16 z16 st16 hQ16
  try dsimp only [Nat.reduceAdd] at y16 z16
  rw [l16, y16, z16] at X16
  obtain ⟨rfl, rfl, eH16⟩ := hQ16
  have N16 := Fr.app N15 (Fr.nil n0)
  refine own_tr st16 ?_
  show own_Go p e below T16 (mkF m 22 #[.val (.ref x), .val (.int (1 : Int32))] [(.int c1)]) _
  obtain ⟨_, _, ⟨T17, L17, k17, n17⟩, -, X17, ⟨Lc17, hQ17, l17, y17, z17⟩, st17⟩ := Jvm.LawKit.callS X16 hx (y := (⟨"com/example/faithful_courier/faithfulcourier/core/Name", "isAllowed", "(C)Z"⟩ : MethodName)) hown (mvT hZ (hw _ (List.mem_of_getElem? (i := 91) rfl))) (mvT hZ (hw _ (List.mem_of_getElem? (i := 92) rfl))) (mvT hZ (hw _ (List.mem_of_getElem? (i := 51) rfl))) (mvT hZ (hw _ (List.mem_of_getElem? (i := 93) rfl))) (by decide) (backOf (W := 0) (rmIa l Z a0 hw [] c1 h1 n0 f4 al_c1) hZ (hw _ (List.mem_of_getElem? (i := 93) rfl)) (hw _ (List.mem_of_getElem? (i := 51) rfl)) (by decide) (by decide)) (g := (mkF m 22 #[.val (.ref x), .val (.int (1 : Int32))] [(.int c1)])) rfl (by rw [hml]; rfl) (argsL := [(.int c1)]) (rest := []) (lenOf pd__C_Z rfl) rfl (by show 2 * 0 + _ ≤ _; exact Nat.le_of_eq rfl) (hb hby d12_22) (fun _ _ => ⟨rfl, eH16, (by decide : 2 + 0 ≤ _), (by decide : 20 + 0 ≤ _)⟩)
  dsimp only [Pt.U, Pt.locs, Pt.cells, Pt.slots] at X17 l17 y17 z17 st17 hQ17
  try dsimp only [Nat.reduceAdd] at y17 z17
  rw [l17, y17, z17] at X17
  obtain ⟨rfl, Nq17, eH17⟩ := hQ17
  have N17 := Fr.app N16 Nq17
  refine own_st st17 ?_
  show own_Go p e below T17 (mkF m 25 #[.val (.ref x), .val (.int (1 : Int32))] [(.int (1 : Int32))]) _
  refine own_st (fun t_ k_ => XS.ifYes X17.here hx rfl (pc0 := 25) (pc' := 68) rfl (hb hby d12_25) rfl (by decide) (by decide) (by decide) k_) ?_
  show own_Go p e below T17 (mkF m 68 #[.val (.ref x), .val (.int (1 : Int32))] []) _
  refine own_st (fun t_ k_ => XS.iinc X17.here hx rfl (hb hby d12_68) rfl (l' := #[.val (.ref x), .val (.int (2 : Int32))]) rfl k_) ?_
  show own_Go p e below T17 (mkF m 71 #[.val (.ref x), .val (.int (2 : Int32))] []) _
  refine own_st (fun t_ k_ => XS.goto X17.here hx rfl (pc0 := 71) (pc' := 9) rfl (hb hby d12_71) (by decide) (by decide) k_) ?_
  show own_Go p e below T17 (mkF m 9 #[.val (.ref x), .val (.int (2 : Int32))] []) _
  refine own_st (fun t_ k_ => XS.iloadN X17.here hx rfl (hb hby d12_9) rfl k_) ?_
  show own_Go p e below T17 (mkF m 10 #[.val (.ref x), .val (.int (2 : Int32))] [(.int (2 : Int32))]) _
  refine own_st (fun t_ k_ => XS.aloadN X17.here hx rfl (hb hby d12_10) rfl rfl k_) ?_
  show own_Go p e below T17 (mkF m 11 #[.val (.ref x), .val (.int (2 : Int32))] [(.ref x), (.int (2 : Int32))]) _
  obtain ⟨cq18, kq18, qa18, qb18, qc18⟩ := isOf hZ eH17 f7
  obtain ⟨_, _, ⟨T18, L18, k18, n18⟩, -, X18, ⟨Lc18, hQ18, l18, y18, z18⟩, st18⟩ := X17.virtualBack hx (y := (⟨"java/lang/String", "length", "()I"⟩ : MethodName)) (z := (⟨"java/lang/String", "length", "()I"⟩ : MethodName)) hown (mvT hZ (hw _ (List.mem_of_getElem? (i := 60) rfl))) (mvT hZ (hw _ (List.mem_of_getElem? (i := 61) rfl))) (notFace_of_selects (args := #[]) (mvT hZ (hw _ (List.mem_of_getElem? (i := 63) rfl)))) (mvT hZ (hw _ (List.mem_of_getElem? (i := 63) rfl))) (mvT hZ (hw _ (List.mem_of_getElem? (i := 62) rfl))) (by decide) (StrChars.Road.lenW (W := 1) hZ hln (kI := 4) (hw _ (List.mem_of_getElem? (i := 7) rfl)) f7 f8 f9 f10 hcd6 hbd6 (pS_COMPACT_STRINGS.ext f11.2) pP5 (Nat.le_of_ble_eq_true rfl) (by decide) (by decide)) qa18 qc18 (g := (mkF m 11 #[.val (.ref x), .val (.int (2 : Int32))] [(.ref x), (.int (2 : Int32))])) rfl (by rw [hml]; rfl) (Steps.refl _) (argsL := []) (rest := [(.int (2 : Int32))]) (lenOf pd___I rfl) rfl (by show 2 * 0 + _ ≤ _; exact Nat.le_of_eq rfl) (hb hby d12_11) (fun _ _ => ⟨rfl, eH17, (by decide : 2 + 0 ≤ _), (by decide : 20 + 0 ≤ _)⟩)
  dsimp only [Pt.U, Pt.locs, Pt.cells, Pt.slots] at X18 l18 y18 z18 st18 hQ18
  try dsimp only [Nat.reduceAdd] at y18 z18
  rw [l18, y18, z18] at X18
  obtain ⟨rfl, rfl, eH18⟩ := hQ18
  have N18 := Fr.app N17 (Fr.nil n0)
  refine own_tr st18 ?_
  show own_Go p e below T18 (mkF m 14 #[.val (.ref x), .val (.int (2 : Int32))] [(.int (4 : Int32)), (.int (2 : Int32))]) _
  refine own_st (fun t_ k_ => XS.icmpNo X18.here hx rfl (hb hby d12_14) rfl (by decide) k_) ?_
  show own_Go p e below T18 (mkF m 17 #[.val (.ref x), .val (.int (2 : Int32))] []) _
  refine own_st (fun t_ k_ => XS.aloadN X18.here hx rfl (hb hby d12_17) rfl rfl k_) ?_
  show own_Go p e below T18 (mkF m 18 #[.val (.ref x), .val (.int (2 : Int32))] [(.ref x)]) _
  refine own_st (fun t_ k_ => XS.iloadN X18.here hx rfl (hb hby d12_18) rfl k_) ?_
  show own_Go p e below T18 (mkF m 19 #[.val (.ref x), .val (.int (2 : Int32))] [(.int (2 : Int32)), (.ref x)]) _
  obtain ⟨cq19, kq19, qa19, qb19, qc19⟩ := isOf hZ eH18 f7
  obtain ⟨_, _, ⟨T19, L19, k19, n19⟩, -, X19, ⟨Lc19, hQ19, l19, y19, z19⟩, st19⟩ := X18.virtualBack hx (y := (⟨"java/lang/String", "charAt", "(I)C"⟩ : MethodName)) (z := (⟨"java/lang/String", "charAt", "(I)C"⟩ : MethodName)) hown (mvT hZ (hw _ (List.mem_of_getElem? (i := 70) rfl))) (mvT hZ (hw _ (List.mem_of_getElem? (i := 71) rfl))) (notFace_of_selects (args := #[]) (mvT hZ (hw _ (List.mem_of_getElem? (i := 73) rfl)))) (mvT hZ (hw _ (List.mem_of_getElem? (i := 73) rfl))) (mvT hZ (hw _ (List.mem_of_getElem? (i := 72) rfl))) (by decide) (StrChars.Road.chN (W := 0) hZ hch (kI := 4) (hw _ (List.mem_of_getElem? (i := 7) rfl)) f7 f8 f9 f10 hcd6 hbd6 (pS_COMPACT_STRINGS.ext f11.2) pP5 (pS_SIOOBE_FORMATTER.ext f11.2) rfm (Nat.le_of_ble_eq_true rfl) (i := 2) (Nat.le_of_ble_eq_true rfl) (j := (2 : Int32)) rfl (by decide) (by decide)) qa19 qc19 (g := (mkF m 19 #[.val (.ref x), .val (.int (2 : Int32))] [(.int (2 : Int32)), (.ref x)])) rfl (by rw [hml]; rfl) (Steps.refl _) (argsL := [(.int (2 : Int32))]) (rest := []) (lenOf pd__I_C rfl) rfl (by show 2 * 0 + _ ≤ _; exact Nat.le_of_eq rfl) (hb hby d12_19) (fun _ _ => ⟨rfl, eH18, (by decide : 2 + 0 ≤ _), (by decide : 20 + 0 ≤ _)⟩)
  dsimp only [Pt.U, Pt.locs, Pt.cells, Pt.slots] at X19 l19 y19 z19 st19 hQ19
  try dsimp only [Nat.reduceAdd] at y19 z19
  rw [l19, y19, z19] at X19
  obtain ⟨rfl, rfl, eH19⟩ := hQ19
  have N19 := Fr.app N18 (Fr.nil n0)
  refine own_tr st19 ?_
  show own_Go p e below T19 (mkF m 22 #[.val (.ref x), .val (.int (2 : Int32))] [(.int c2)]) _
  obtain ⟨_, _, ⟨T20, L20, k20, n20⟩, -, X20, ⟨Lc20, hQ20, l20, y20, z20⟩, st20⟩ := Jvm.LawKit.callS X19 hx (y := (⟨"com/example/faithful_courier/faithfulcourier/core/Name", "isAllowed", "(C)Z"⟩ : MethodName)) hown (mvT hZ (hw _ (List.mem_of_getElem? (i := 91) rfl))) (mvT hZ (hw _ (List.mem_of_getElem? (i := 92) rfl))) (mvT hZ (hw _ (List.mem_of_getElem? (i := 51) rfl))) (mvT hZ (hw _ (List.mem_of_getElem? (i := 93) rfl))) (by decide) (backOf (W := 0) (rmIa l Z a0 hw [] c2 h1 n0 f4 al_c2) hZ (hw _ (List.mem_of_getElem? (i := 93) rfl)) (hw _ (List.mem_of_getElem? (i := 51) rfl)) (by decide) (by decide)) (g := (mkF m 22 #[.val (.ref x), .val (.int (2 : Int32))] [(.int c2)])) rfl (by rw [hml]; rfl) (argsL := [(.int c2)]) (rest := []) (lenOf pd__C_Z rfl) rfl (by show 2 * 0 + _ ≤ _; exact Nat.le_of_eq rfl) (hb hby d12_22) (fun _ _ => ⟨rfl, eH19, (by decide : 2 + 0 ≤ _), (by decide : 20 + 0 ≤ _)⟩)
  dsimp only [Pt.U, Pt.locs, Pt.cells, Pt.slots] at X20 l20 y20 z20 st20 hQ20
  try dsimp only [Nat.reduceAdd] at y20 z20
  rw [l20, y20, z20] at X20
  obtain ⟨rfl, Nq20, eH20⟩ := hQ20
  have N20 := Fr.app N19 Nq20
  refine own_st st20 ?_
  show own_Go p e below T20 (mkF m 25 #[.val (.ref x), .val (.int (2 : Int32))] [(.int (1 : Int32))]) _
  refine own_st (fun t_ k_ => XS.ifYes X20.here hx rfl (pc0 := 25) (pc' := 68) rfl (hb hby d12_25) rfl (by decide) (by decide) (by decide) k_) ?_
  show own_Go p e below T20 (mkF m 68 #[.val (.ref x), .val (.int (2 : Int32))] []) _
  refine own_st (fun t_ k_ => XS.iinc X20.here hx rfl (hb hby d12_68) rfl (l' := #[.val (.ref x), .val (.int (3 : Int32))]) rfl k_) ?_
  show own_Go p e below T20 (mkF m 71 #[.val (.ref x), .val (.int (3 : Int32))] []) _
  refine own_st (fun t_ k_ => XS.goto X20.here hx rfl (pc0 := 71) (pc' := 9) rfl (hb hby d12_71) (by decide) (by decide) k_) ?_
  show own_Go p e below T20 (mkF m 9 #[.val (.ref x), .val (.int (3 : Int32))] []) _
  refine own_st (fun t_ k_ => XS.iloadN X20.here hx rfl (hb hby d12_9) rfl k_) ?_
  show own_Go p e below T20 (mkF m 10 #[.val (.ref x), .val (.int (3 : Int32))] [(.int (3 : Int32))]) _
  refine own_st (fun t_ k_ => XS.aloadN X20.here hx rfl (hb hby d12_10) rfl rfl k_) ?_
  show own_Go p e below T20 (mkF m 11 #[.val (.ref x), .val (.int (3 : Int32))] [(.ref x), (.int (3 : Int32))]) _
  obtain ⟨cq21, kq21, qa21, qb21, qc21⟩ := isOf hZ eH20 f7
  obtain ⟨_, _, ⟨T21, L21, k21, n21⟩, -, X21, ⟨Lc21, hQ21, l21, y21, z21⟩, st21⟩ := X20.virtualBack hx (y := (⟨"java/lang/String", "length", "()I"⟩ : MethodName)) (z := (⟨"java/lang/String", "length", "()I"⟩ : MethodName)) hown (mvT hZ (hw _ (List.mem_of_getElem? (i := 60) rfl))) (mvT hZ (hw _ (List.mem_of_getElem? (i := 61) rfl))) (notFace_of_selects (args := #[]) (mvT hZ (hw _ (List.mem_of_getElem? (i := 63) rfl)))) (mvT hZ (hw _ (List.mem_of_getElem? (i := 63) rfl))) (mvT hZ (hw _ (List.mem_of_getElem? (i := 62) rfl))) (by decide) (StrChars.Road.lenW (W := 1) hZ hln (kI := 4) (hw _ (List.mem_of_getElem? (i := 7) rfl)) f7 f8 f9 f10 hcd6 hbd6 (pS_COMPACT_STRINGS.ext f11.2) pP5 (Nat.le_of_ble_eq_true rfl) (by decide) (by decide)) qa21 qc21 (g := (mkF m 11 #[.val (.ref x), .val (.int (3 : Int32))] [(.ref x), (.int (3 : Int32))])) rfl (by rw [hml]; rfl) (Steps.refl _) (argsL := []) (rest := [(.int (3 : Int32))]) (lenOf pd___I rfl) rfl (by show 2 * 0 + _ ≤ _; exact Nat.le_of_eq rfl) (hb hby d12_11) (fun _ _ => ⟨rfl, eH20, (by decide : 2 + 0 ≤ _), (by decide : 20 + 0 ≤ _)⟩)
  dsimp only [Pt.U, Pt.locs, Pt.cells, Pt.slots] at X21 l21 y21 z21 st21 hQ21
  try dsimp only [Nat.reduceAdd] at y21 z21
  rw [l21, y21, z21] at X21
  obtain ⟨rfl, rfl, eH21⟩ := hQ21
  have N21 := Fr.app N20 (Fr.nil n0)
  refine own_tr st21 ?_
  show own_Go p e below T21 (mkF m 14 #[.val (.ref x), .val (.int (3 : Int32))] [(.int (4 : Int32)), (.int (3 : Int32))]) _
  refine own_st (fun t_ k_ => XS.icmpNo X21.here hx rfl (hb hby d12_14) rfl (by decide) k_) ?_
  show own_Go p e below T21 (mkF m 17 #[.val (.ref x), .val (.int (3 : Int32))] []) _
  refine own_st (fun t_ k_ => XS.aloadN X21.here hx rfl (hb hby d12_17) rfl rfl k_) ?_
  show own_Go p e below T21 (mkF m 18 #[.val (.ref x), .val (.int (3 : Int32))] [(.ref x)]) _
  refine own_st (fun t_ k_ => XS.iloadN X21.here hx rfl (hb hby d12_18) rfl k_) ?_
  show own_Go p e below T21 (mkF m 19 #[.val (.ref x), .val (.int (3 : Int32))] [(.int (3 : Int32)), (.ref x)]) _
  obtain ⟨cq22, kq22, qa22, qb22, qc22⟩ := isOf hZ eH21 f7
  obtain ⟨_, _, ⟨T22, L22, k22, n22⟩, -, X22, ⟨Lc22, hQ22, l22, y22, z22⟩, st22⟩ := X21.virtualBack hx (y := (⟨"java/lang/String", "charAt", "(I)C"⟩ : MethodName)) (z := (⟨"java/lang/String", "charAt", "(I)C"⟩ : MethodName)) hown (mvT hZ (hw _ (List.mem_of_getElem? (i := 70) rfl))) (mvT hZ (hw _ (List.mem_of_getElem? (i := 71) rfl))) (notFace_of_selects (args := #[]) (mvT hZ (hw _ (List.mem_of_getElem? (i := 73) rfl)))) (mvT hZ (hw _ (List.mem_of_getElem? (i := 73) rfl))) (mvT hZ (hw _ (List.mem_of_getElem? (i := 72) rfl))) (by decide) (StrChars.Road.chN (W := 0) hZ hch (kI := 4) (hw _ (List.mem_of_getElem? (i := 7) rfl)) f7 f8 f9 f10 hcd6 hbd6 (pS_COMPACT_STRINGS.ext f11.2) pP5 (pS_SIOOBE_FORMATTER.ext f11.2) rfm (Nat.le_of_ble_eq_true rfl) (i := 3) (Nat.le_of_ble_eq_true rfl) (j := (3 : Int32)) rfl (by decide) (by decide)) qa22 qc22 (g := (mkF m 19 #[.val (.ref x), .val (.int (3 : Int32))] [(.int (3 : Int32)), (.ref x)])) rfl (by rw [hml]; rfl) (Steps.refl _) (argsL := [(.int (3 : Int32))]) (rest := []) (lenOf pd__I_C rfl) rfl (by show 2 * 0 + _ ≤ _; exact Nat.le_of_eq rfl) (hb hby d12_19) (fun _ _ => ⟨rfl, eH21, (by decide : 2 + 0 ≤ _), (by decide : 20 + 0 ≤ _)⟩)
  dsimp only [Pt.U, Pt.locs, Pt.cells, Pt.slots] at X22 l22 y22 z22 st22 hQ22
  try dsimp only [Nat.reduceAdd] at y22 z22
  rw [l22, y22, z22] at X22
  obtain ⟨rfl, rfl, eH22⟩ := hQ22
  have N22 := Fr.app N21 (Fr.nil n0)
  refine own_tr st22 ?_
  show own_Go p e below T22 (mkF m 22 #[.val (.ref x), .val (.int (3 : Int32))] [(.int c3)]) _
  obtain ⟨_, _, ⟨T23, L23, k23, n23⟩, -, X23, ⟨Lc23, hQ23, l23, y23, z23⟩, st23⟩ := Jvm.LawKit.callS X22 hx (y := (⟨"com/example/faithful_courier/faithfulcourier/core/Name", "isAllowed", "(C)Z"⟩ : MethodName)) hown (mvT hZ (hw _ (List.mem_of_getElem? (i := 91) rfl))) (mvT hZ (hw _ (List.mem_of_getElem? (i := 92) rfl))) (mvT hZ (hw _ (List.mem_of_getElem? (i := 51) rfl))) (mvT hZ (hw _ (List.mem_of_getElem? (i := 93) rfl))) (by decide) (backOf (W := 0) (rmIa l Z a0 hw [] c3 h1 n0 f4 al_c3) hZ (hw _ (List.mem_of_getElem? (i := 93) rfl)) (hw _ (List.mem_of_getElem? (i := 51) rfl)) (by decide) (by decide)) (g := (mkF m 22 #[.val (.ref x), .val (.int (3 : Int32))] [(.int c3)])) rfl (by rw [hml]; rfl) (argsL := [(.int c3)]) (rest := []) (lenOf pd__C_Z rfl) rfl (by show 2 * 0 + _ ≤ _; exact Nat.le_of_eq rfl) (hb hby d12_22) (fun _ _ => ⟨rfl, eH22, (by decide : 2 + 0 ≤ _), (by decide : 20 + 0 ≤ _)⟩)
  dsimp only [Pt.U, Pt.locs, Pt.cells, Pt.slots] at X23 l23 y23 z23 st23 hQ23
  try dsimp only [Nat.reduceAdd] at y23 z23
  rw [l23, y23, z23] at X23
  obtain ⟨rfl, Nq23, eH23⟩ := hQ23
  have N23 := Fr.app N22 Nq23
  refine own_st st23 ?_
  show own_Go p e below T23 (mkF m 25 #[.val (.ref x), .val (.int (3 : Int32))] [(.int (1 : Int32))]) _
  refine own_st (fun t_ k_ => XS.ifYes X23.here hx rfl (pc0 := 25) (pc' := 68) rfl (hb hby d12_25) rfl (by decide) (by decide) (by decide) k_) ?_
  show own_Go p e below T23 (mkF m 68 #[.val (.ref x), .val (.int (3 : Int32))] []) _
  refine own_st (fun t_ k_ => XS.iinc X23.here hx rfl (hb hby d12_68) rfl (l' := #[.val (.ref x), .val (.int (4 : Int32))]) rfl k_) ?_
  show own_Go p e below T23 (mkF m 71 #[.val (.ref x), .val (.int (4 : Int32))] []) _
  refine own_st (fun t_ k_ => XS.goto X23.here hx rfl (pc0 := 71) (pc' := 9) rfl (hb hby d12_71) (by decide) (by decide) k_) ?_
  show own_Go p e below T23 (mkF m 9 #[.val (.ref x), .val (.int (4 : Int32))] []) _
  refine own_st (fun t_ k_ => XS.iloadN X23.here hx rfl (hb hby d12_9) rfl k_) ?_
  show own_Go p e below T23 (mkF m 10 #[.val (.ref x), .val (.int (4 : Int32))] [(.int (4 : Int32))]) _
  refine own_st (fun t_ k_ => XS.aloadN X23.here hx rfl (hb hby d12_10) rfl rfl k_) ?_
  show own_Go p e below T23 (mkF m 11 #[.val (.ref x), .val (.int (4 : Int32))] [(.ref x), (.int (4 : Int32))]) _
  obtain ⟨cq24, kq24, qa24, qb24, qc24⟩ := isOf hZ eH23 f7
  obtain ⟨_, _, ⟨T24, L24, k24, n24⟩, -, X24, ⟨Lc24, hQ24, l24, y24, z24⟩, st24⟩ := X23.virtualBack hx (y := (⟨"java/lang/String", "length", "()I"⟩ : MethodName)) (z := (⟨"java/lang/String", "length", "()I"⟩ : MethodName)) hown (mvT hZ (hw _ (List.mem_of_getElem? (i := 60) rfl))) (mvT hZ (hw _ (List.mem_of_getElem? (i := 61) rfl))) (notFace_of_selects (args := #[]) (mvT hZ (hw _ (List.mem_of_getElem? (i := 63) rfl)))) (mvT hZ (hw _ (List.mem_of_getElem? (i := 63) rfl))) (mvT hZ (hw _ (List.mem_of_getElem? (i := 62) rfl))) (by decide) (StrChars.Road.lenW (W := 1) hZ hln (kI := 4) (hw _ (List.mem_of_getElem? (i := 7) rfl)) f7 f8 f9 f10 hcd6 hbd6 (pS_COMPACT_STRINGS.ext f11.2) pP5 (Nat.le_of_ble_eq_true rfl) (by decide) (by decide)) qa24 qc24 (g := (mkF m 11 #[.val (.ref x), .val (.int (4 : Int32))] [(.ref x), (.int (4 : Int32))])) rfl (by rw [hml]; rfl) (Steps.refl _) (argsL := []) (rest := [(.int (4 : Int32))]) (lenOf pd___I rfl) rfl (by show 2 * 0 + _ ≤ _; exact Nat.le_of_eq rfl) (hb hby d12_11) (fun _ _ => ⟨rfl, eH23, (by decide : 2 + 0 ≤ _), (by decide : 20 + 0 ≤ _)⟩)
  dsimp only [Pt.U, Pt.locs, Pt.cells, Pt.slots] at X24 l24 y24 z24 st24 hQ24
  try dsimp only [Nat.reduceAdd] at y24 z24
  rw [l24, y24, z24] at X24
  obtain ⟨rfl, rfl, eH24⟩ := hQ24
  have N24 := Fr.app N23 (Fr.nil n0)
  refine own_tr st24 ?_
  show own_Go p e below T24 (mkF m 14 #[.val (.ref x), .val (.int (4 : Int32))] [(.int (4 : Int32)), (.int (4 : Int32))]) _
  refine own_st (fun t_ k_ => XS.icmpYes X24.here hx rfl (pc0 := 14) (pc' := 74) rfl (hb hby d12_14) rfl (by decide) (by decide) (by decide) k_) ?_
  show own_Go p e below T24 (mkF m 74 #[.val (.ref x), .val (.int (4 : Int32))] []) _
  refine own_st (fun t_ k_ => XS.aloadN X24.here hx rfl (hb hby d12_74) rfl rfl k_) ?_
  show own_Go p e below T24 (mkF m 75 #[.val (.ref x), .val (.int (4 : Int32))] [(.ref x)]) _
  obtain ⟨cq25, kq25, qa25, qb25, qc25⟩ := isOf hZ eH24 f7
  obtain ⟨_, _, ⟨T25, L25, k25, n25⟩, -, X25, ⟨Lc25, hQ25, l25, y25, z25⟩, st25⟩ := X24.virtualBack hx (y := (⟨"java/lang/String", "isEmpty", "()Z"⟩ : MethodName)) (z := (⟨"java/lang/String", "isEmpty", "()Z"⟩ : MethodName)) hown (mvT hZ (hw _ (List.mem_of_getElem? (i := 94) rfl))) (mvT hZ (hw _ (List.mem_of_getElem? (i := 95) rfl))) (notFace_of_selects (args := #[]) (mvT hZ (hw _ (List.mem_of_getElem? (i := 97) rfl)))) (mvT hZ (hw _ (List.mem_of_getElem? (i := 97) rfl))) (mvT hZ (hw _ (List.mem_of_getElem? (i := 96) rfl))) (by decide) (StrChars.Road.empW (W := 0) hZ hem (kI := 4) (hw _ (List.mem_of_getElem? (i := 7) rfl)) f7 f8 f9 f10 hcd6 hbd6 (Nat.le_of_ble_eq_true rfl) (by decide) (by decide)) qa25 qc25 (g := (mkF m 75 #[.val (.ref x), .val (.int (4 : Int32))] [(.ref x)])) rfl (by rw [hml]; rfl) (Steps.refl _) (argsL := []) (rest := []) (lenOf pd___Z rfl) rfl (by show 2 * 0 + _ ≤ _; exact Nat.le_of_eq rfl) (hb hby d12_75) (fun _ _ => ⟨rfl, eH24, (by decide : 2 + 0 ≤ _), (by decide : 20 + 0 ≤ _)⟩)
  dsimp only [Pt.U, Pt.locs, Pt.cells, Pt.slots] at X25 l25 y25 z25 st25 hQ25
  try dsimp only [Nat.reduceAdd] at y25 z25
  rw [l25, y25, z25] at X25
  obtain ⟨rfl, rfl, eH25⟩ := hQ25
  have N25 := Fr.app N24 (Fr.nil n0)
  refine own_tr st25 ?_
  show own_Go p e below T25 (mkF m 78 #[.val (.ref x), .val (.int (4 : Int32))] [(.int (0 : Int32))]) _
  refine own_st (fun t_ k_ => XS.ifNo X25.here hx rfl (hb hby d12_78) rfl (by decide) k_) ?_
  show own_Go p e below T25 (mkF m 81 #[.val (.ref x), .val (.int (4 : Int32))] []) _
  refine own_st (fun t_ k_ => XS.aloadN X25.here hx rfl (hb hby d12_81) rfl rfl k_) ?_
  show own_Go p e below T25 (mkF m 82 #[.val (.ref x), .val (.int (4 : Int32))] [(.ref x)]) _
  obtain ⟨cq26, kq26, qa26, qb26, qc26⟩ := isOf hZ eH25 f7
  obtain ⟨_, _, ⟨T26, L26, k26, n26⟩, -, X26, ⟨Lc26, hQ26, l26, y26, z26⟩, st26⟩ := X25.virtualBack hx (y := (⟨"java/lang/String", "length", "()I"⟩ : MethodName)) (z := (⟨"java/lang/String", "length", "()I"⟩ : MethodName)) hown (mvT hZ (hw _ (List.mem_of_getElem? (i := 60) rfl))) (mvT hZ (hw _ (List.mem_of_getElem? (i := 61) rfl))) (notFace_of_selects (args := #[]) (mvT hZ (hw _ (List.mem_of_getElem? (i := 63) rfl)))) (mvT hZ (hw _ (List.mem_of_getElem? (i := 63) rfl))) (mvT hZ (hw _ (List.mem_of_getElem? (i := 62) rfl))) (by decide) (StrChars.Road.lenW (W := 0) hZ hln (kI := 4) (hw _ (List.mem_of_getElem? (i := 7) rfl)) f7 f8 f9 f10 hcd6 hbd6 (pS_COMPACT_STRINGS.ext f11.2) pP5 (Nat.le_of_ble_eq_true rfl) (by decide) (by decide)) qa26 qc26 (g := (mkF m 82 #[.val (.ref x), .val (.int (4 : Int32))] [(.ref x)])) rfl (by rw [hml]; rfl) (Steps.refl _) (argsL := []) (rest := []) (lenOf pd___I rfl) rfl (by show 2 * 0 + _ ≤ _; exact Nat.le_of_eq rfl) (hb hby d12_82) (fun _ _ => ⟨rfl, eH25, (by decide : 2 + 0 ≤ _), (by decide : 20 + 0 ≤ _)⟩)
  dsimp only [Pt.U, Pt.locs, Pt.cells, Pt.slots] at X26 l26 y26 z26 st26 hQ26
  try dsimp only [Nat.reduceAdd] at y26 z26
  rw [l26, y26, z26] at X26
  obtain ⟨rfl, rfl, eH26⟩ := hQ26
  have N26 := Fr.app N25 (Fr.nil n0)
  refine own_tr st26 ?_
  show own_Go p e below T26 (mkF m 85 #[.val (.ref x), .val (.int (4 : Int32))] [(.int (4 : Int32))]) _
  refine own_st (fun t_ k_ => XS.bipush X26.here hx rfl (hb hby d12_85) k_) ?_
  show own_Go p e below T26 (mkF m 87 #[.val (.ref x), .val (.int (4 : Int32))] [(.int (64 : Int32)), (.int (4 : Int32))]) _
  refine own_st (fun t_ k_ => XS.icmpYes X26.here hx rfl (pc0 := 87) (pc' := 128) rfl (hb hby d12_87) rfl (by decide) (by decide) (by decide) k_) ?_
  show own_Go p e below T26 (mkF m 128 #[.val (.ref x), .val (.int (4 : Int32))] []) _
  obtain ⟨T27, h27, X27, e27, E27, A27, D27, -, st27⟩ := newO X26 hx hZ hown (hw _ (List.mem_of_getElem? (i := 99) rfl)) (hw _ (List.mem_of_getElem? (i := 100) rfl)) (hw _ (List.mem_of_getElem? (i := 51) rfl)) eH26 (g := (mkF m 128 #[.val (.ref x), .val (.int (4 : Int32))] [])) rfl (hb hby d12_128) (by decide) (by decide)
  obtain ⟨b27, g27⟩ : ∃ z, z = h1.size := ⟨_, rfl⟩
  rw [← g27] at A27 D27 st27
  have G27 : n0 ≤ b27 := Nat.le_trans f4 (Nat.le_of_eq g27.symm)
  have B27 : h0.size ≤ b27 := Nat.le_trans K3.1 (Nat.le_of_eq g27.symm)
  have CH28 := CH2.ext E27
  have CR28 := CHr.trans CR2 (CHr.ext E27 CH2)
  have K29 : Keep h0 h27 [] := K3.ext E27
  have D27_text : Fld Z h27 b27 "com/example/faithful_courier/faithfulcourier/core/Name" "text" "Ljava/lang/String;" .null := D27 (Or.inr (hw _ (List.mem_of_getElem? (i := 106) rfl))) (ty := (.object "java/lang/String")) (by decide)
  refine own_st st27 ?_
  show own_Go p e below T27 (mkF m 131 #[.val (.ref x), .val (.int (4 : Int32))] [(.ref b27)]) _
  refine own_st (fun t_ k_ => XS.dup X27.here hx rfl (hb hby d12_131) rfl rfl k_) ?_
  show own_Go p e below T27 (mkF m 132 #[.val (.ref x), .val (.int (4 : Int32))] [(.ref b27), (.ref b27)]) _
  refine own_st (fun t_ k_ => XS.aloadN X27.here hx rfl (hb hby d12_132) rfl rfl k_) ?_
  show own_Go p e below T27 (mkF m 133 #[.val (.ref x), .val (.int (4 : Int32))] [(.ref x), (.ref b27), (.ref b27)]) _
  have f30 := (Nat.le_trans f4 E27.1)
  obtain ⟨_, _, ⟨T31, L31, k31, n31⟩, -, X31, ⟨Lc31, hQ31, l31, y31, z31⟩, st31⟩ := X27.specialBack hx (y := (⟨"com/example/faithful_courier/faithfulcourier/core/Name", "<init>", "(Ljava/lang/String;)V"⟩ : MethodName)) rfl hown (mvT hZ (hw _ (List.mem_of_getElem? (i := 101) rfl))) (mvT hZ (hw _ (List.mem_of_getElem? (i := 102) rfl))) (mvT hZ (hw _ (List.mem_of_getElem? (i := 103) rfl))) (by decide) (backOf (W := 1) (rmNi l Z a0 hw [] b27 x .null h27 n0 f30 A27 D27_text G27) hZ (hw _ (List.mem_of_getElem? (i := 103) rfl)) (hw _ (List.mem_of_getElem? (i := 51) rfl)) (by decide) (by decide)) (g := (mkF m 133 #[.val (.ref x), .val (.int (4 : Int32))] [(.ref x), (.ref b27), (.ref b27)])) rfl (by rw [hml]; rfl) (Steps.refl _) (a := b27) (argsL := [(.ref x)]) (rest := [(.ref b27)]) (lenOf pd__Ljava_lang_String__V rfl) rfl (by show 2 * 0 + _ ≤ _; exact Nat.le_of_eq rfl) (hb hby d12_133) (fun _ _ => ⟨rfl, e27, (by decide : 3 + 0 ≤ _), (by decide : 21 + 0 ≤ _)⟩)
  dsimp only [Pt.U, Pt.locs, Pt.cells, Pt.slots] at X31 l31 y31 z31 st31 hQ31
  try dsimp only [Nat.reduceAdd] at y31 z31
  rw [l31, y31, z31] at X31
  obtain ⟨rfl, Nq31, Kq31, q31_0, q31_1⟩ := hQ31
  have N31 := Fr.app N26 Nq31
  have Sa32 : ∀ y ∈ [b27], Safe Z own_EL T1.vm h27 y := (sfS (Safe.exa hZ.alike A27 (by decide) (by decide)) sf0)
  have CH32 := CH28.keep Kq31 Sa32
  have CR32 := CHr.trans CR28 (CHr.keep Kq31 Sa32 CH28)
  have K33 : Keep h0 T31.heap [] := K29.trans Kq31 (allS (Or.inr B27) all0)
  refine own_tr st31 ?_
  show own_Go p e below T31 (mkF m 136 #[.val (.ref x), .val (.int (4 : Int32))] [(.ref b27)]) _
  have f34 := (Nat.le_trans (Nat.le_trans hk1 E27.1) Kq31.1)
  obtain ⟨fs, hr, hrun, hended, hRW⟩ := X31.leaveW hS f34 (v := some (.ref b27)) (fun h => by rw [Bd.returns] at h; cases h)
  have hCend : CHr Z own_EL s.vm s.heap T31.vm T31.heap := by
    rw [hh]
    exact CHr.trans CR32 (CHv.at X31 hZ hEL CH32)
  refine own_fin (own_retR X31 hx rfl Bd.returns rfl (hb hby d12_136) hr) ⟨hrun, hended, _, _, rfl, ?_, hCend, hRW.1, hRW.2.1, hRW.2.2.1, hRW.2.2.2.mono (by decide) (by decide)⟩
  show Q_rmOf4 Z x tx kx c0 c1 c2 c3 zc fm h0 n0 _ T31.heap _
  exact ⟨b27, rfl, N31, K33, q31_0, q31_1, B27, G27⟩
theorem d24_0 : decode prog_2_method_6_code 0 = .ok (.aload_n 0, 1) := by decide +kernel
theorem d24_1 : decode prog_2_method_6_code 1 = .ok (.getfield 7, 3) := by decide +kernel
theorem d24_4 : decode prog_2_method_6_code 4 = .ok (.areturn, 1) := by decide +kernel
theorem pn_24 : plainName "com/example/faithful_courier/faithfulcourier/core/Name" = true := by first | (simp [plainName, overriddenIn]; done) | decide +kernel
theorem ef_rmTs (m : MethodId) (x0 : Addr) : entryFrame m #[(.ref x0)] 1 = mkF m 0 #[.val (.ref x0)] [] := by first | (simp [entryFrame, mkF, argsToLocals, Value.category]; done) | rfl
def Q_rmTs (Z : State) (a1 : Addr) (a2 : Addr) (h0 : Heap) (n0 : Nat) (v : Option Value) (h : Heap) (L : List Loc) : Prop := v = some (.ref a2) ∧ Fr n0 L ∧ h = h0
set_option maxRecDepth 65536 in
set_option maxHeartbeats 40000000 in
theorem rmTs (l : Launch) (Z : State) (a0 : Array Value) (hw : ∀ d ∈ tables_1, d.before a0 Z = true) (ws : List Jvm.Cond) (a1 : Addr) (a2 : Addr) (h0 : Heap) (n0 : Nat) (Z0 : n0 ≤ h0.size) (pF_text_a1 : Fld Z h0 a1 "com/example/faithful_courier/faithfulcourier/core/Name" "text" "Ljava/lang/String;" (.ref a2)) :
    MetFree l (⟨"com/example/faithful_courier/faithfulcourier/core/Name", "toString", "()Ljava/lang/String;"⟩ : MethodName) (head1 (Jvm.Cond.code (⟨"com/example/faithful_courier/faithfulcourier/core/Name", "toString", "()Ljava/lang/String;"⟩ : MethodName) prog_2_method_6_code 1 (some (.object "java/lang/String")) :: ws) ({ frames := 0, cells := 0, slots := 0, locals := 0 } : Room)) (fun a U => a = #[(.ref a1)] ∧ Z.Warmed39 U.vm ∧ U.heap = h0) (fun _ _ _ _ _ => True) (fun _ U o U' => ∃ v L, o = .returned v ∧ Q_rmTs Z a1 a2 h0 n0 v U'.heap L ∧ FrameEnd U o U' L ({ frames := 0, cells := 0, slots := 0, locals := 0 } : Room).cells ({ frames := 0, cells := 0, slots := 0, locals := 0 } : Room).slots) := by
  refine MetFree.of_bodySF (plainFor_of_name pn_24) hisR ?_
  intro p e s m args below meth c s₁ Bd hml0 hP hK
  obtain ⟨rfl, hZ, hh⟩ := hP
  have hx := Bd.exec
  have hby := Bd.bytes
  have hml : c.maxLocals = 1 := hml0
  have hown : s.vm.findClass "com/example/faithful_courier/faithfulcourier/core/Name" = some m.cls := findClass_of_methodNamed Bd.named
  have hnm := (name_of_methodNamed Bd.named Bd.method).1
  have X0 : Stand p l e ({ frames := 0, cells := 0, slots := 0, locals := 0 } : Room) s m #[(.ref a1)] below meth c s₁ [] 0 0 := Stand.of_body Bd
  have e0 : s₁.heap = h0 := by rw [← hh, Bd.state]; rfl
  have N0 := Fr.nil n0
  refine own_enter (ef_rmTs m a1) ?_
  refine own_st (fun t_ k_ => XS.aloadN X0.here hx rfl (hb hby d24_0) rfl rfl k_) ?_
  show own_Go p e below s₁ (mkF m 1 #[.val (.ref a1)] [(.ref a1)]) _
  obtain ⟨T1, X1, e1, st1⟩ := getF X0 hx hZ hown (host := "") (Or.inl (hw _ (List.mem_of_getElem? (i := 105) rfl))) Via.refl e0 pF_text_a1 (g := (mkF m 1 #[.val (.ref a1)] [(.ref a1)])) rfl rfl (hb hby d24_1)
  refine own_st st1 ?_
  show own_Go p e below T1 (mkF m 4 #[.val (.ref a1)] [(.ref a2)]) _
  obtain ⟨fs, hr, hrun, hended, hW, hsame⟩ := X1.leave (v := some (.ref a2)) (fun h => by rw [Bd.returns] at h; cases h)
  refine own_fin (own_retR X1 hx rfl Bd.returns rfl (hb hby d24_4) hr) ⟨hrun, hended, _, _, rfl, ?_, ⟨_, rfl⟩, hW, hsame.mono (by decide) (by decide)⟩
  show Q_rmTs Z a1 a2 h0 n0 _ T1.heap _
  rw [e1]
  exact ⟨rfl, N0, rfl⟩
theorem d26_0 : decode prog_2_method_4_code 0 = .ok (.aload_n 1, 1) := by decide +kernel
theorem d26_1 : decode prog_2_method_4_code 1 = .ok (.instanceof 8, 3) := by decide +kernel
theorem d26_4 : decode prog_2_method_4_code 4 = .ok (.ifCond .eq 26, 3) := by decide +kernel
theorem d26_7 : decode prog_2_method_4_code 7 = .ok (.aload_n 1, 1) := by decide +kernel
theorem d26_8 : decode prog_2_method_4_code 8 = .ok (.checkcast 8, 3) := by decide +kernel
theorem d26_11 : decode prog_2_method_4_code 11 = .ok (.astore_n 2, 1) := by decide +kernel
theorem d26_12 : decode prog_2_method_4_code 12 = .ok (.aload_n 0, 1) := by decide +kernel
theorem d26_13 : decode prog_2_method_4_code 13 = .ok (.getfield 7, 3) := by decide +kernel
theorem d26_16 : decode prog_2_method_4_code 16 = .ok (.aload_n 2, 1) := by decide +kernel
theorem d26_17 : decode prog_2_method_4_code 17 = .ok (.getfield 7, 3) := by decide +kernel
theorem d26_20 : decode prog_2_method_4_code 20 = .ok (.invokevirtual 68, 3) := by decide +kernel
theorem d26_23 : decode prog_2_method_4_code 23 = .ok (.ifCond .eq 7, 3) := by decide +kernel
theorem d26_26 : decode prog_2_method_4_code 26 = .ok (.iconst 1, 1) := by decide +kernel
theorem d26_27 : decode prog_2_method_4_code 27 = .ok (.goto 4, 3) := by decide +kernel
theorem d26_30 : decode prog_2_method_4_code 30 = .ok (.iconst 0, 1) := by decide +kernel
theorem d26_31 : decode prog_2_method_4_code 31 = .ok (.ireturn, 1) := by decide +kernel
theorem pn_26 : plainName "com/example/faithful_courier/faithfulcourier/core/Name" = true := by first | (simp [plainName, overriddenIn]; done) | decide +kernel
theorem pd__Ljava_lang_Object__Z : parseMethodDescriptor "(Ljava/lang/Object;)Z" = some ⟨[(.object "java/lang/Object")], some .boolean⟩ := by decide +kernel
theorem ef_rmEq1 (m : MethodId) (x0 : Addr) (x1 : Addr) : entryFrame m #[(.ref x0), (.ref x1)] 3 = mkF m 0 #[.val (.ref x0), .val (.ref x1), .unset] [] := by first | (simp [entryFrame, mkF, argsToLocals, Value.category]; done) | rfl
def Q_rmEq1 (Z : State) (a1 : Addr) (a2 : Addr) (x : Addr) (tx : Addr) (kx : ClassId) (y : Addr) (ty : Addr) (ky : ClassId) (c0 : Int32) (d0 : Int32) (zc : Int32) (fm : Value) (h0 : Heap) (n0 : Nat) (v : Option Value) (h : Heap) (L : List Loc) : Prop := ∃ r : Int32, v = some (.int r) ∧ Fr n0 L ∧ h = h0 ∧ ((r = (1 : Int32) ∧ ([c0] : List Int32) = [d0]) ∨ (r = (0 : Int32) ∧ ¬ ([c0] : List Int32) = [d0]))
set_option maxRecDepth 65536 in
set_option maxHeartbeats 40000000 in
theorem rmEq1 (l : Launch) (Z : State) (a0 : Array Value) (hw : ∀ d ∈ tables_1, d.before a0 Z = true) (ws : List Jvm.Cond) (a1 : Addr) (a2 : Addr) (x : Addr) (tx : Addr) (kx : ClassId) (y : Addr) (ty : Addr) (ky : ClassId) (c0 : Int32) (d0 : Int32) (zc : Int32) (fm : Value) (h0 : Heap) (n0 : Nat) (Z0 : n0 ≤ h0.size) (pF_text_a1 : Fld Z h0 a1 "com/example/faithful_courier/faithfulcourier/core/Name" "text" "Ljava/lang/String;" (.ref x)) (pE_a2 : Exa Z h0 a2 "com/example/faithful_courier/faithfulcourier/core/Name") (pF_text_a2 : Fld Z h0 a2 "com/example/faithful_courier/faithfulcourier/core/Name" "text" "Ljava/lang/String;" (.ref y)) (pE_x : Exa Z h0 x "java/lang/String") (pF_value_x : Fld Z h0 x "java/lang/String" "value" "[B" (.ref tx)) (pF_coder_x : Fld Z h0 x "java/lang/String" "coder" "B" (.int (0 : Int32))) (pV_tx : Arv Z h0 tx kx .byte (1 : Int32) ((([c0] : List Int32).map (fun c => c.toInt8.toInt32)).map Value.int) (.int 0)) (hp_x : (∀ c ∈ ([c0] : List Int32), ¬ c < 0 ∧ ¬ (255 : Int32) < c)) (pE_y : Exa Z h0 y "java/lang/String") (pF_value_y : Fld Z h0 y "java/lang/String" "value" "[B" (.ref ty)) (pF_coder_y : Fld Z h0 y "java/lang/String" "coder" "B" (.int (0 : Int32))) (pV_ty : Arv Z h0 ty ky .byte (1 : Int32) ((([d0] : List Int32).map (fun c => c.toInt8.toInt32)).map Value.int) (.int 0)) (hp_y : (∀ c ∈ ([d0] : List Int32), ¬ c < 0 ∧ ¬ (255 : Int32) < c)) (pS_COMPACT_STRINGS : Sta Z Z.heap "java/lang/String" "COMPACT_STRINGS" "Z" (.int zc)) (pP5 : (¬ (zc = (0 : Int32)))) (pS_SIOOBE_FORMATTER : Sta Z Z.heap "jdk/internal/util/Preconditions" "SIOOBE_FORMATTER" "Ljava/util/function/BiFunction;" fm) (rfm : (fm.isRef = true)) (pO : Old Z n0 h0) :
    MetFree l (⟨"com/example/faithful_courier/faithfulcourier/core/Name", "equals", "(Ljava/lang/Object;)Z"⟩ : MethodName) (head1 (Jvm.Cond.code (⟨"com/example/faithful_courier/faithfulcourier/core/Name", "equals", "(Ljava/lang/Object;)Z"⟩ : MethodName) prog_2_method_4_code 3 (some .boolean) :: ws) ({ frames := 2, cells := 0, slots := 0, locals := 28 } : Room)) (fun a U => a = #[(.ref a1), (.ref a2)] ∧ Z.Warmed39 U.vm ∧ U.heap = h0) (fun _ _ _ _ _ => True) (fun _ U o U' => ∃ v L, o = .returned v ∧ Q_rmEq1 Z a1 a2 x tx kx y ty ky c0 d0 zc fm h0 n0 v U'.heap L ∧ FrameEnd U o U' L ({ frames := 2, cells := 0, slots := 0, locals := 28 } : Room).cells ({ frames := 2, cells := 0, slots := 0, locals := 28 } : Room).slots) := by
  refine MetFree.of_bodySF (plainFor_of_name pn_26) hisR ?_
  intro p e s m args below meth c s₁ Bd hml0 hP hK
  obtain ⟨rfl, hZ, hh⟩ := hP
  have hx := Bd.exec
  have hby := Bd.bytes
  have hml : c.maxLocals = 3 := hml0
  have hown : s.vm.findClass "com/example/faithful_courier/faithfulcourier/core/Name" = some m.cls := findClass_of_methodNamed Bd.named
  have hnm := (name_of_methodNamed Bd.named Bd.method).1
  have X0 : Stand p l e ({ frames := 2, cells := 0, slots := 0, locals := 28 } : Room) s m #[(.ref a1), (.ref a2)] below meth c s₁ [] 0 0 := Stand.of_body Bd
  have e0 : s₁.heap = h0 := by rw [← hh, Bd.state]; rfl
  have N0 := Fr.nil n0
  refine own_enter (ef_rmEq1 m a1 a2) ?_
  have heq : ∀ d ∈ StrChars.Road.wordsEq, d.before a0 Z = true := fun d hd => hw d ((by decide +kernel : ∀ d ∈ StrChars.Road.wordsEq, d ∈ tables_1) d hd)
  refine own_st (fun t_ k_ => XS.aloadN X0.here hx rfl (hb hby d26_0) rfl rfl k_) ?_
  show own_Go p e below s₁ (mkF m 1 #[.val (.ref a1), .val (.ref a2), .unset] [(.ref a2)]) _
  obtain ⟨T1, X1, e1, st1⟩ := instY X0 hx hZ hown (hw _ (List.mem_of_getElem? (i := 99) rfl)) e0 (Ins.self pE_a2) (g := (mkF m 1 #[.val (.ref a1), .val (.ref a2), .unset] [(.ref a2)])) rfl rfl (hb hby d26_1)
  refine own_st st1 ?_
  show own_Go p e below T1 (mkF m 4 #[.val (.ref a1), .val (.ref a2), .unset] [(.int (1 : Int32))]) _
  refine own_st (fun t_ k_ => XS.ifNo X1.here hx rfl (hb hby d26_4) rfl (by decide) k_) ?_
  show own_Go p e below T1 (mkF m 7 #[.val (.ref a1), .val (.ref a2), .unset] []) _
  refine own_st (fun t_ k_ => XS.aloadN X1.here hx rfl (hb hby d26_7) rfl rfl k_) ?_
  show own_Go p e below T1 (mkF m 8 #[.val (.ref a1), .val (.ref a2), .unset] [(.ref a2)]) _
  obtain ⟨T2, X2, e2, st2⟩ := castY X1 hx hZ hown (hw _ (List.mem_of_getElem? (i := 99) rfl)) e1 (Ins.self pE_a2) (g := (mkF m 8 #[.val (.ref a1), .val (.ref a2), .unset] [(.ref a2)])) rfl rfl (hb hby d26_8)
  refine own_st st2 ?_
  show own_Go p e below T2 (mkF m 11 #[.val (.ref a1), .val (.ref a2), .unset] [(.ref a2)]) _
  refine own_st (fun t_ k_ => XS.astoreN X2.here hx rfl (hb hby d26_11) rfl rfl (l' := #[.val (.ref a1), .val (.ref a2), .val (.ref a2)]) rfl k_) ?_
  show own_Go p e below T2 (mkF m 12 #[.val (.ref a1), .val (.ref a2), .val (.ref a2)] []) _
  refine own_st (fun t_ k_ => XS.aloadN X2.here hx rfl (hb hby d26_12) rfl rfl k_) ?_
  show own_Go p e below T2 (mkF m 13 #[.val (.ref a1), .val (.ref a2), .val (.ref a2)] [(.ref a1)]) _
  obtain ⟨T3, X3, e3, st3⟩ := getF X2 hx hZ hown (host := "") (Or.inl (hw _ (List.mem_of_getElem? (i := 105) rfl))) Via.refl e2 pF_text_a1 (g := (mkF m 13 #[.val (.ref a1), .val (.ref a2), .val (.ref a2)] [(.ref a1)])) rfl rfl (hb hby d26_13)
  refine own_st st3 ?_
  show own_Go p e below T3 (mkF m 16 #[.val (.ref a1), .val (.ref a2), .val (.ref a2)] [(.ref x)]) _
  refine own_st (fun t_ k_ => XS.aloadN X3.here hx rfl (hb hby d26_16) rfl rfl k_) ?_
  show own_Go p e below T3 (mkF m 17 #[.val (.ref a1), .val (.ref a2), .val (.ref a2)] [(.ref a2), (.ref x)]) _
  obtain ⟨T4, X4, e4, st4⟩ := getF X3 hx hZ hown (host := "") (Or.inl (hw _ (List.mem_of_getElem? (i := 105) rfl))) Via.refl e3 pF_text_a2 (g := (mkF m 17 #[.val (.ref a1), .val (.ref a2), .val (.ref a2)] [(.ref a2), (.ref x)])) rfl rfl (hb hby d26_17)
  refine own_st st4 ?_
  show own_Go p e below T4 (mkF m 20 #[.val (.ref a1), .val (.ref a2), .val (.ref a2)] [(.ref y), (.ref x)]) _
  have hcd5 : StrChars.Road.CodA ([c0] : List Int32) 0 (1 : Int32) ((([c0] : List Int32).map (fun c => c.toInt8.toInt32)).map Value.int) := StrChars.Road.codOf rfl (fun x hx => (hp_x x hx).2)
  have hbd5 : ∀ x ∈ ([c0] : List Int32), ¬ x < 0 ∧ ¬ (65535 : Int32) < x := own_up _ hp_x
  have hcd6 : StrChars.Road.CodA ([d0] : List Int32) 0 (1 : Int32) ((([d0] : List Int32).map (fun c => c.toInt8.toInt32)).map Value.int) := StrChars.Road.codOf rfl (fun x hx => (hp_y x hx).2)
  have hbd6 : ∀ x ∈ ([d0] : List Int32), ¬ x < 0 ∧ ¬ (65535 : Int32) < x := own_up _ hp_y
  obtain ⟨cq7, kq7, qa7, qb7, qc7⟩ := isOf hZ e4 pE_x
  obtain ⟨_, _, ⟨T7, L7, k7, n7⟩, -, X7, ⟨Lc7, hQ7, l7, y7, z7⟩, st7⟩ := X4.virtualBack hx (y := (⟨"java/lang/String", "equals", "(Ljava/lang/Object;)Z"⟩ : MethodName)) (z := (⟨"java/lang/String", "equals", "(Ljava/lang/Object;)Z"⟩ : MethodName)) hown (mvT hZ (hw _ (List.mem_of_getElem? (i := 123) rfl))) (mvT hZ (hw _ (List.mem_of_getElem? (i := 113) rfl))) (notFace_of_selects (args := #[]) (mvT hZ (hw _ (List.mem_of_getElem? (i := 115) rfl)))) (mvT hZ (hw _ (List.mem_of_getElem? (i := 115) rfl))) (mvT hZ (hw _ (List.mem_of_getElem? (i := 114) rfl))) (by decide) (StrChars.Road.eqW (W := 0) hZ heq (kI := 4) (hw _ (List.mem_of_getElem? (i := 7) rfl)) pE_x pF_value_x pF_coder_x pV_tx hcd5 hbd5 (Nat.le_of_ble_eq_true rfl) pE_y pF_value_y pF_coder_y pV_ty hcd6 hbd6 (Nat.le_of_ble_eq_true rfl) (pS_COMPACT_STRINGS.ext pO.2) pP5 (by decide) (by decide)) qa7 qc7 (g := (mkF m 20 #[.val (.ref a1), .val (.ref a2), .val (.ref a2)] [(.ref y), (.ref x)])) rfl (by rw [hml]; rfl) (Steps.refl _) (argsL := [(.ref y)]) (rest := []) (lenOf pd__Ljava_lang_Object__Z rfl) rfl (by show 2 * 0 + _ ≤ _; exact Nat.le_of_eq rfl) (hb hby d26_20) (fun _ _ => ⟨rfl, e4, (by decide : 0 + 0 ≤ _), (by decide : 0 + 0 ≤ _)⟩)
  dsimp only [Pt.U, Pt.locs, Pt.cells, Pt.slots] at X7 l7 y7 z7 st7 hQ7
  try dsimp only [Nat.reduceAdd] at y7 z7
  rw [l7, y7, z7] at X7
  obtain ⟨hcase7, rfl, eH7⟩ := hQ7
  have N7 := Fr.app N0 (Fr.nil n0)
  by_cases hs : ([c0] : List Int32) = [d0]
  · skip
    have hv7 : _ = some (Value.int 1) := hcase7.elim (fun q => q.1) (fun q => absurd hs q.2)
    subst hv7
    refine own_tr st7 ?_
    show own_Go p e below T7 (mkF m 23 #[.val (.ref a1), .val (.ref a2), .val (.ref a2)] [(.int (1 : Int32))]) _
    refine own_st (fun t_ k_ => XS.ifNo X7.here hx rfl (hb hby d26_23) rfl (by decide) k_) ?_
    show own_Go p e below T7 (mkF m 26 #[.val (.ref a1), .val (.ref a2), .val (.ref a2)] []) _
    refine own_st (fun t_ k_ => XS.iconst X7.here hx rfl (hb hby d26_26) k_) ?_
    show own_Go p e below T7 (mkF m 27 #[.val (.ref a1), .val (.ref a2), .val (.ref a2)] [(.int (1 : Int32))]) _
    refine own_st (fun t_ k_ => XS.goto X7.here hx rfl (pc0 := 27) (pc' := 31) rfl (hb hby d26_27) (by decide) (by decide) k_) ?_
    show own_Go p e below T7 (mkF m 31 #[.val (.ref a1), .val (.ref a2), .val (.ref a2)] [(.int (1 : Int32))]) _
    obtain ⟨fs, hr, hrun, hended, hW, hsame⟩ := X7.leave (v := some (.int (1 : Int32))) (fun h => by rw [Bd.returns] at h; cases h)
    refine own_fin (retN X7 hx (t := .boolean) Bd.returns (by simp) (hb hby d26_31) hr) ⟨hrun, hended, _, _, rfl, ?_, ⟨_, rfl⟩, hW, hsame.mono (by decide) (by decide)⟩
    show Q_rmEq1 Z a1 a2 x tx kx y ty ky c0 d0 zc fm h0 n0 _ T7.heap _
    rw [eH7]
    exact ⟨(1 : Int32), rfl, N7, rfl, (Or.inl ⟨rfl, hs⟩)⟩
  · skip
    have hv7 : _ = some (Value.int 0) := hcase7.elim (fun q => absurd q.2 hs) (fun q => q.1)
    subst hv7
    refine own_tr st7 ?_
    show own_Go p e below T7 (mkF m 23 #[.val (.ref a1), .val (.ref a2), .val (.ref a2)] [(.int (0 : Int32))]) _
    refine own_st (fun t_ k_ => XS.ifYes X7.here hx rfl (pc0 := 23) (pc' := 30) rfl (hb hby d26_23) rfl (by decide) (by decide) (by decide) k_) ?_
    show own_Go p e below T7 (mkF m 30 #[.val (.ref a1), .val (.ref a2), .val (.ref a2)] []) _
    refine own_st (fun t_ k_ => XS.iconst X7.here hx rfl (hb hby d26_30) k_) ?_
    show own_Go p e below T7 (mkF m 31 #[.val (.ref a1), .val (.ref a2), .val (.ref a2)] [(.int (0 : Int32))]) _
    obtain ⟨fs, hr, hrun, hended, hW, hsame⟩ := X7.leave (v := some (.int (0 : Int32))) (fun h => by rw [Bd.returns] at h; cases h)
    refine own_fin (retN X7 hx (t := .boolean) Bd.returns (by simp) (hb hby d26_31) hr) ⟨hrun, hended, _, _, rfl, ?_, ⟨_, rfl⟩, hW, hsame.mono (by decide) (by decide)⟩
    show Q_rmEq1 Z a1 a2 x tx kx y ty ky c0 d0 zc fm h0 n0 _ T7.heap _
    rw [eH7]
    exact ⟨(0 : Int32), rfl, N7, rfl, (Or.inr ⟨rfl, hs⟩)⟩
theorem ef_rmEq2 (m : MethodId) (x0 : Addr) (x1 : Addr) : entryFrame m #[(.ref x0), (.ref x1)] 3 = mkF m 0 #[.val (.ref x0), .val (.ref x1), .unset] [] := by first | (simp [entryFrame, mkF, argsToLocals, Value.category]; done) | rfl
def Q_rmEq2 (Z : State) (a1 : Addr) (a2 : Addr) (x : Addr) (tx : Addr) (kx : ClassId) (y : Addr) (ty : Addr) (ky : ClassId) (c0 : Int32) (c1 : Int32) (d0 : Int32) (zc : Int32) (fm : Value) (h0 : Heap) (n0 : Nat) (v : Option Value) (h : Heap) (L : List Loc) : Prop := ∃ r : Int32, v = some (.int r) ∧ Fr n0 L ∧ h = h0 ∧ ((r = (1 : Int32) ∧ ([c0, c1] : List Int32) = [d0]) ∨ (r = (0 : Int32) ∧ ¬ ([c0, c1] : List Int32) = [d0]))
set_option maxRecDepth 65536 in
set_option maxHeartbeats 40000000 in
theorem rmEq2 (l : Launch) (Z : State) (a0 : Array Value) (hw : ∀ d ∈ tables_1, d.before a0 Z = true) (ws : List Jvm.Cond) (a1 : Addr) (a2 : Addr) (x : Addr) (tx : Addr) (kx : ClassId) (y : Addr) (ty : Addr) (ky : ClassId) (c0 : Int32) (c1 : Int32) (d0 : Int32) (zc : Int32) (fm : Value) (h0 : Heap) (n0 : Nat) (Z0 : n0 ≤ h0.size) (pF_text_a1 : Fld Z h0 a1 "com/example/faithful_courier/faithfulcourier/core/Name" "text" "Ljava/lang/String;" (.ref x)) (pE_a2 : Exa Z h0 a2 "com/example/faithful_courier/faithfulcourier/core/Name") (pF_text_a2 : Fld Z h0 a2 "com/example/faithful_courier/faithfulcourier/core/Name" "text" "Ljava/lang/String;" (.ref y)) (pE_x : Exa Z h0 x "java/lang/String") (pF_value_x : Fld Z h0 x "java/lang/String" "value" "[B" (.ref tx)) (pF_coder_x : Fld Z h0 x "java/lang/String" "coder" "B" (.int (0 : Int32))) (pV_tx : Arv Z h0 tx kx .byte (2 : Int32) ((([c0, c1] : List Int32).map (fun c => c.toInt8.toInt32)).map Value.int) (.int 0)) (hp_x : (∀ c ∈ ([c0, c1] : List Int32), ¬ c < 0 ∧ ¬ (255 : Int32) < c)) (pE_y : Exa Z h0 y "java/lang/String") (pF_value_y : Fld Z h0 y "java/lang/String" "value" "[B" (.ref ty)) (pF_coder_y : Fld Z h0 y "java/lang/String" "coder" "B" (.int (0 : Int32))) (pV_ty : Arv Z h0 ty ky .byte (1 : Int32) ((([d0] : List Int32).map (fun c => c.toInt8.toInt32)).map Value.int) (.int 0)) (hp_y : (∀ c ∈ ([d0] : List Int32), ¬ c < 0 ∧ ¬ (255 : Int32) < c)) (pS_COMPACT_STRINGS : Sta Z Z.heap "java/lang/String" "COMPACT_STRINGS" "Z" (.int zc)) (pP5 : (¬ (zc = (0 : Int32)))) (pS_SIOOBE_FORMATTER : Sta Z Z.heap "jdk/internal/util/Preconditions" "SIOOBE_FORMATTER" "Ljava/util/function/BiFunction;" fm) (rfm : (fm.isRef = true)) (pO : Old Z n0 h0) :
    MetFree l (⟨"com/example/faithful_courier/faithfulcourier/core/Name", "equals", "(Ljava/lang/Object;)Z"⟩ : MethodName) (head1 (Jvm.Cond.code (⟨"com/example/faithful_courier/faithfulcourier/core/Name", "equals", "(Ljava/lang/Object;)Z"⟩ : MethodName) prog_2_method_4_code 3 (some .boolean) :: ws) ({ frames := 2, cells := 0, slots := 0, locals := 28 } : Room)) (fun a U => a = #[(.ref a1), (.ref a2)] ∧ Z.Warmed39 U.vm ∧ U.heap = h0) (fun _ _ _ _ _ => True) (fun _ U o U' => ∃ v L, o = .returned v ∧ Q_rmEq2 Z a1 a2 x tx kx y ty ky c0 c1 d0 zc fm h0 n0 v U'.heap L ∧ FrameEnd U o U' L ({ frames := 2, cells := 0, slots := 0, locals := 28 } : Room).cells ({ frames := 2, cells := 0, slots := 0, locals := 28 } : Room).slots) := by
  refine MetFree.of_bodySF (plainFor_of_name pn_26) hisR ?_
  intro p e s m args below meth c s₁ Bd hml0 hP hK
  obtain ⟨rfl, hZ, hh⟩ := hP
  have hx := Bd.exec
  have hby := Bd.bytes
  have hml : c.maxLocals = 3 := hml0
  have hown : s.vm.findClass "com/example/faithful_courier/faithfulcourier/core/Name" = some m.cls := findClass_of_methodNamed Bd.named
  have hnm := (name_of_methodNamed Bd.named Bd.method).1
  have X0 : Stand p l e ({ frames := 2, cells := 0, slots := 0, locals := 28 } : Room) s m #[(.ref a1), (.ref a2)] below meth c s₁ [] 0 0 := Stand.of_body Bd
  have e0 : s₁.heap = h0 := by rw [← hh, Bd.state]; rfl
  have N0 := Fr.nil n0
  refine own_enter (ef_rmEq2 m a1 a2) ?_
  have heq : ∀ d ∈ StrChars.Road.wordsEq, d.before a0 Z = true := fun d hd => hw d ((by decide +kernel : ∀ d ∈ StrChars.Road.wordsEq, d ∈ tables_1) d hd)
  refine own_st (fun t_ k_ => XS.aloadN X0.here hx rfl (hb hby d26_0) rfl rfl k_) ?_
  show own_Go p e below s₁ (mkF m 1 #[.val (.ref a1), .val (.ref a2), .unset] [(.ref a2)]) _
  obtain ⟨T1, X1, e1, st1⟩ := instY X0 hx hZ hown (hw _ (List.mem_of_getElem? (i := 99) rfl)) e0 (Ins.self pE_a2) (g := (mkF m 1 #[.val (.ref a1), .val (.ref a2), .unset] [(.ref a2)])) rfl rfl (hb hby d26_1)
  refine own_st st1 ?_
  show own_Go p e below T1 (mkF m 4 #[.val (.ref a1), .val (.ref a2), .unset] [(.int (1 : Int32))]) _
  refine own_st (fun t_ k_ => XS.ifNo X1.here hx rfl (hb hby d26_4) rfl (by decide) k_) ?_
  show own_Go p e below T1 (mkF m 7 #[.val (.ref a1), .val (.ref a2), .unset] []) _
  refine own_st (fun t_ k_ => XS.aloadN X1.here hx rfl (hb hby d26_7) rfl rfl k_) ?_
  show own_Go p e below T1 (mkF m 8 #[.val (.ref a1), .val (.ref a2), .unset] [(.ref a2)]) _
  obtain ⟨T2, X2, e2, st2⟩ := castY X1 hx hZ hown (hw _ (List.mem_of_getElem? (i := 99) rfl)) e1 (Ins.self pE_a2) (g := (mkF m 8 #[.val (.ref a1), .val (.ref a2), .unset] [(.ref a2)])) rfl rfl (hb hby d26_8)
  refine own_st st2 ?_
  show own_Go p e below T2 (mkF m 11 #[.val (.ref a1), .val (.ref a2), .unset] [(.ref a2)]) _
  refine own_st (fun t_ k_ => XS.astoreN X2.here hx rfl (hb hby d26_11) rfl rfl (l' := #[.val (.ref a1), .val (.ref a2), .val (.ref a2)]) rfl k_) ?_
  show own_Go p e below T2 (mkF m 12 #[.val (.ref a1), .val (.ref a2), .val (.ref a2)] []) _
  refine own_st (fun t_ k_ => XS.aloadN X2.here hx rfl (hb hby d26_12) rfl rfl k_) ?_
  show own_Go p e below T2 (mkF m 13 #[.val (.ref a1), .val (.ref a2), .val (.ref a2)] [(.ref a1)]) _
  obtain ⟨T3, X3, e3, st3⟩ := getF X2 hx hZ hown (host := "") (Or.inl (hw _ (List.mem_of_getElem? (i := 105) rfl))) Via.refl e2 pF_text_a1 (g := (mkF m 13 #[.val (.ref a1), .val (.ref a2), .val (.ref a2)] [(.ref a1)])) rfl rfl (hb hby d26_13)
  refine own_st st3 ?_
  show own_Go p e below T3 (mkF m 16 #[.val (.ref a1), .val (.ref a2), .val (.ref a2)] [(.ref x)]) _
  refine own_st (fun t_ k_ => XS.aloadN X3.here hx rfl (hb hby d26_16) rfl rfl k_) ?_
  show own_Go p e below T3 (mkF m 17 #[.val (.ref a1), .val (.ref a2), .val (.ref a2)] [(.ref a2), (.ref x)]) _
  obtain ⟨T4, X4, e4, st4⟩ := getF X3 hx hZ hown (host := "") (Or.inl (hw _ (List.mem_of_getElem? (i := 105) rfl))) Via.refl e3 pF_text_a2 (g := (mkF m 17 #[.val (.ref a1), .val (.ref a2), .val (.ref a2)] [(.ref a2), (.ref x)])) rfl rfl (hb hby d26_17)
  refine own_st st4 ?_
  show own_Go p e below T4 (mkF m 20 #[.val (.ref a1), .val (.ref a2), .val (.ref a2)] [(.ref y), (.ref x)]) _
  have hcd5 : StrChars.Road.CodA ([c0, c1] : List Int32) 0 (2 : Int32) ((([c0, c1] : List Int32).map (fun c => c.toInt8.toInt32)).map Value.int) := StrChars.Road.codOf rfl (fun x hx => (hp_x x hx).2)
  have hbd5 : ∀ x ∈ ([c0, c1] : List Int32), ¬ x < 0 ∧ ¬ (65535 : Int32) < x := own_up _ hp_x
  have hcd6 : StrChars.Road.CodA ([d0] : List Int32) 0 (1 : Int32) ((([d0] : List Int32).map (fun c => c.toInt8.toInt32)).map Value.int) := StrChars.Road.codOf rfl (fun x hx => (hp_y x hx).2)
  have hbd6 : ∀ x ∈ ([d0] : List Int32), ¬ x < 0 ∧ ¬ (65535 : Int32) < x := own_up _ hp_y
  obtain ⟨cq7, kq7, qa7, qb7, qc7⟩ := isOf hZ e4 pE_x
  obtain ⟨_, _, ⟨T7, L7, k7, n7⟩, -, X7, ⟨Lc7, hQ7, l7, y7, z7⟩, st7⟩ := X4.virtualBack hx (y := (⟨"java/lang/String", "equals", "(Ljava/lang/Object;)Z"⟩ : MethodName)) (z := (⟨"java/lang/String", "equals", "(Ljava/lang/Object;)Z"⟩ : MethodName)) hown (mvT hZ (hw _ (List.mem_of_getElem? (i := 123) rfl))) (mvT hZ (hw _ (List.mem_of_getElem? (i := 113) rfl))) (notFace_of_selects (args := #[]) (mvT hZ (hw _ (List.mem_of_getElem? (i := 115) rfl)))) (mvT hZ (hw _ (List.mem_of_getElem? (i := 115) rfl))) (mvT hZ (hw _ (List.mem_of_getElem? (i := 114) rfl))) (by decide) (StrChars.Road.eqW (W := 0) hZ heq (kI := 4) (hw _ (List.mem_of_getElem? (i := 7) rfl)) pE_x pF_value_x pF_coder_x pV_tx hcd5 hbd5 (Nat.le_of_ble_eq_true rfl) pE_y pF_value_y pF_coder_y pV_ty hcd6 hbd6 (Nat.le_of_ble_eq_true rfl) (pS_COMPACT_STRINGS.ext pO.2) pP5 (by decide) (by decide)) qa7 qc7 (g := (mkF m 20 #[.val (.ref a1), .val (.ref a2), .val (.ref a2)] [(.ref y), (.ref x)])) rfl (by rw [hml]; rfl) (Steps.refl _) (argsL := [(.ref y)]) (rest := []) (lenOf pd__Ljava_lang_Object__Z rfl) rfl (by show 2 * 0 + _ ≤ _; exact Nat.le_of_eq rfl) (hb hby d26_20) (fun _ _ => ⟨rfl, e4, (by decide : 0 + 0 ≤ _), (by decide : 0 + 0 ≤ _)⟩)
  dsimp only [Pt.U, Pt.locs, Pt.cells, Pt.slots] at X7 l7 y7 z7 st7 hQ7
  try dsimp only [Nat.reduceAdd] at y7 z7
  rw [l7, y7, z7] at X7
  obtain ⟨hcase7, rfl, eH7⟩ := hQ7
  have N7 := Fr.app N0 (Fr.nil n0)
  by_cases hs : ([c0, c1] : List Int32) = [d0]
  · skip
    have hv7 : _ = some (Value.int 1) := hcase7.elim (fun q => q.1) (fun q => absurd hs q.2)
    subst hv7
    refine own_tr st7 ?_
    show own_Go p e below T7 (mkF m 23 #[.val (.ref a1), .val (.ref a2), .val (.ref a2)] [(.int (1 : Int32))]) _
    refine own_st (fun t_ k_ => XS.ifNo X7.here hx rfl (hb hby d26_23) rfl (by decide) k_) ?_
    show own_Go p e below T7 (mkF m 26 #[.val (.ref a1), .val (.ref a2), .val (.ref a2)] []) _
    refine own_st (fun t_ k_ => XS.iconst X7.here hx rfl (hb hby d26_26) k_) ?_
    show own_Go p e below T7 (mkF m 27 #[.val (.ref a1), .val (.ref a2), .val (.ref a2)] [(.int (1 : Int32))]) _
    refine own_st (fun t_ k_ => XS.goto X7.here hx rfl (pc0 := 27) (pc' := 31) rfl (hb hby d26_27) (by decide) (by decide) k_) ?_
    show own_Go p e below T7 (mkF m 31 #[.val (.ref a1), .val (.ref a2), .val (.ref a2)] [(.int (1 : Int32))]) _
    obtain ⟨fs, hr, hrun, hended, hW, hsame⟩ := X7.leave (v := some (.int (1 : Int32))) (fun h => by rw [Bd.returns] at h; cases h)
    refine own_fin (retN X7 hx (t := .boolean) Bd.returns (by simp) (hb hby d26_31) hr) ⟨hrun, hended, _, _, rfl, ?_, ⟨_, rfl⟩, hW, hsame.mono (by decide) (by decide)⟩
    show Q_rmEq2 Z a1 a2 x tx kx y ty ky c0 c1 d0 zc fm h0 n0 _ T7.heap _
    rw [eH7]
    exact ⟨(1 : Int32), rfl, N7, rfl, (Or.inl ⟨rfl, hs⟩)⟩
  · skip
    have hv7 : _ = some (Value.int 0) := hcase7.elim (fun q => absurd q.2 hs) (fun q => q.1)
    subst hv7
    refine own_tr st7 ?_
    show own_Go p e below T7 (mkF m 23 #[.val (.ref a1), .val (.ref a2), .val (.ref a2)] [(.int (0 : Int32))]) _
    refine own_st (fun t_ k_ => XS.ifYes X7.here hx rfl (pc0 := 23) (pc' := 30) rfl (hb hby d26_23) rfl (by decide) (by decide) (by decide) k_) ?_
    show own_Go p e below T7 (mkF m 30 #[.val (.ref a1), .val (.ref a2), .val (.ref a2)] []) _
    refine own_st (fun t_ k_ => XS.iconst X7.here hx rfl (hb hby d26_30) k_) ?_
    show own_Go p e below T7 (mkF m 31 #[.val (.ref a1), .val (.ref a2), .val (.ref a2)] [(.int (0 : Int32))]) _
    obtain ⟨fs, hr, hrun, hended, hW, hsame⟩ := X7.leave (v := some (.int (0 : Int32))) (fun h => by rw [Bd.returns] at h; cases h)
    refine own_fin (retN X7 hx (t := .boolean) Bd.returns (by simp) (hb hby d26_31) hr) ⟨hrun, hended, _, _, rfl, ?_, ⟨_, rfl⟩, hW, hsame.mono (by decide) (by decide)⟩
    show Q_rmEq2 Z a1 a2 x tx kx y ty ky c0 c1 d0 zc fm h0 n0 _ T7.heap _
    rw [eH7]
    exact ⟨(0 : Int32), rfl, N7, rfl, (Or.inr ⟨rfl, hs⟩)⟩
theorem ef_rmEq3 (m : MethodId) (x0 : Addr) (x1 : Addr) : entryFrame m #[(.ref x0), (.ref x1)] 3 = mkF m 0 #[.val (.ref x0), .val (.ref x1), .unset] [] := by first | (simp [entryFrame, mkF, argsToLocals, Value.category]; done) | rfl
def Q_rmEq3 (Z : State) (a1 : Addr) (a2 : Addr) (x : Addr) (tx : Addr) (kx : ClassId) (y : Addr) (ty : Addr) (ky : ClassId) (c0 : Int32) (c1 : Int32) (c2 : Int32) (d0 : Int32) (zc : Int32) (fm : Value) (h0 : Heap) (n0 : Nat) (v : Option Value) (h : Heap) (L : List Loc) : Prop := ∃ r : Int32, v = some (.int r) ∧ Fr n0 L ∧ h = h0 ∧ ((r = (1 : Int32) ∧ ([c0, c1, c2] : List Int32) = [d0]) ∨ (r = (0 : Int32) ∧ ¬ ([c0, c1, c2] : List Int32) = [d0]))
set_option maxRecDepth 65536 in
set_option maxHeartbeats 40000000 in
theorem rmEq3 (l : Launch) (Z : State) (a0 : Array Value) (hw : ∀ d ∈ tables_1, d.before a0 Z = true) (ws : List Jvm.Cond) (a1 : Addr) (a2 : Addr) (x : Addr) (tx : Addr) (kx : ClassId) (y : Addr) (ty : Addr) (ky : ClassId) (c0 : Int32) (c1 : Int32) (c2 : Int32) (d0 : Int32) (zc : Int32) (fm : Value) (h0 : Heap) (n0 : Nat) (Z0 : n0 ≤ h0.size) (pF_text_a1 : Fld Z h0 a1 "com/example/faithful_courier/faithfulcourier/core/Name" "text" "Ljava/lang/String;" (.ref x)) (pE_a2 : Exa Z h0 a2 "com/example/faithful_courier/faithfulcourier/core/Name") (pF_text_a2 : Fld Z h0 a2 "com/example/faithful_courier/faithfulcourier/core/Name" "text" "Ljava/lang/String;" (.ref y)) (pE_x : Exa Z h0 x "java/lang/String") (pF_value_x : Fld Z h0 x "java/lang/String" "value" "[B" (.ref tx)) (pF_coder_x : Fld Z h0 x "java/lang/String" "coder" "B" (.int (0 : Int32))) (pV_tx : Arv Z h0 tx kx .byte (3 : Int32) ((([c0, c1, c2] : List Int32).map (fun c => c.toInt8.toInt32)).map Value.int) (.int 0)) (hp_x : (∀ c ∈ ([c0, c1, c2] : List Int32), ¬ c < 0 ∧ ¬ (255 : Int32) < c)) (pE_y : Exa Z h0 y "java/lang/String") (pF_value_y : Fld Z h0 y "java/lang/String" "value" "[B" (.ref ty)) (pF_coder_y : Fld Z h0 y "java/lang/String" "coder" "B" (.int (0 : Int32))) (pV_ty : Arv Z h0 ty ky .byte (1 : Int32) ((([d0] : List Int32).map (fun c => c.toInt8.toInt32)).map Value.int) (.int 0)) (hp_y : (∀ c ∈ ([d0] : List Int32), ¬ c < 0 ∧ ¬ (255 : Int32) < c)) (pS_COMPACT_STRINGS : Sta Z Z.heap "java/lang/String" "COMPACT_STRINGS" "Z" (.int zc)) (pP5 : (¬ (zc = (0 : Int32)))) (pS_SIOOBE_FORMATTER : Sta Z Z.heap "jdk/internal/util/Preconditions" "SIOOBE_FORMATTER" "Ljava/util/function/BiFunction;" fm) (rfm : (fm.isRef = true)) (pO : Old Z n0 h0) :
    MetFree l (⟨"com/example/faithful_courier/faithfulcourier/core/Name", "equals", "(Ljava/lang/Object;)Z"⟩ : MethodName) (head1 (Jvm.Cond.code (⟨"com/example/faithful_courier/faithfulcourier/core/Name", "equals", "(Ljava/lang/Object;)Z"⟩ : MethodName) prog_2_method_4_code 3 (some .boolean) :: ws) ({ frames := 2, cells := 0, slots := 0, locals := 28 } : Room)) (fun a U => a = #[(.ref a1), (.ref a2)] ∧ Z.Warmed39 U.vm ∧ U.heap = h0) (fun _ _ _ _ _ => True) (fun _ U o U' => ∃ v L, o = .returned v ∧ Q_rmEq3 Z a1 a2 x tx kx y ty ky c0 c1 c2 d0 zc fm h0 n0 v U'.heap L ∧ FrameEnd U o U' L ({ frames := 2, cells := 0, slots := 0, locals := 28 } : Room).cells ({ frames := 2, cells := 0, slots := 0, locals := 28 } : Room).slots) := by
  refine MetFree.of_bodySF (plainFor_of_name pn_26) hisR ?_
  intro p e s m args below meth c s₁ Bd hml0 hP hK
  obtain ⟨rfl, hZ, hh⟩ := hP
  have hx := Bd.exec
  have hby := Bd.bytes
  have hml : c.maxLocals = 3 := hml0
  have hown : s.vm.findClass "com/example/faithful_courier/faithfulcourier/core/Name" = some m.cls := findClass_of_methodNamed Bd.named
  have hnm := (name_of_methodNamed Bd.named Bd.method).1
  have X0 : Stand p l e ({ frames := 2, cells := 0, slots := 0, locals := 28 } : Room) s m #[(.ref a1), (.ref a2)] below meth c s₁ [] 0 0 := Stand.of_body Bd
  have e0 : s₁.heap = h0 := by rw [← hh, Bd.state]; rfl
  have N0 := Fr.nil n0
  refine own_enter (ef_rmEq3 m a1 a2) ?_
  have heq : ∀ d ∈ StrChars.Road.wordsEq, d.before a0 Z = true := fun d hd => hw d ((by decide +kernel : ∀ d ∈ StrChars.Road.wordsEq, d ∈ tables_1) d hd)
  refine own_st (fun t_ k_ => XS.aloadN X0.here hx rfl (hb hby d26_0) rfl rfl k_) ?_
  show own_Go p e below s₁ (mkF m 1 #[.val (.ref a1), .val (.ref a2), .unset] [(.ref a2)]) _
  obtain ⟨T1, X1, e1, st1⟩ := instY X0 hx hZ hown (hw _ (List.mem_of_getElem? (i := 99) rfl)) e0 (Ins.self pE_a2) (g := (mkF m 1 #[.val (.ref a1), .val (.ref a2), .unset] [(.ref a2)])) rfl rfl (hb hby d26_1)
  refine own_st st1 ?_
  show own_Go p e below T1 (mkF m 4 #[.val (.ref a1), .val (.ref a2), .unset] [(.int (1 : Int32))]) _
  refine own_st (fun t_ k_ => XS.ifNo X1.here hx rfl (hb hby d26_4) rfl (by decide) k_) ?_
  show own_Go p e below T1 (mkF m 7 #[.val (.ref a1), .val (.ref a2), .unset] []) _
  refine own_st (fun t_ k_ => XS.aloadN X1.here hx rfl (hb hby d26_7) rfl rfl k_) ?_
  show own_Go p e below T1 (mkF m 8 #[.val (.ref a1), .val (.ref a2), .unset] [(.ref a2)]) _
  obtain ⟨T2, X2, e2, st2⟩ := castY X1 hx hZ hown (hw _ (List.mem_of_getElem? (i := 99) rfl)) e1 (Ins.self pE_a2) (g := (mkF m 8 #[.val (.ref a1), .val (.ref a2), .unset] [(.ref a2)])) rfl rfl (hb hby d26_8)
  refine own_st st2 ?_
  show own_Go p e below T2 (mkF m 11 #[.val (.ref a1), .val (.ref a2), .unset] [(.ref a2)]) _
  refine own_st (fun t_ k_ => XS.astoreN X2.here hx rfl (hb hby d26_11) rfl rfl (l' := #[.val (.ref a1), .val (.ref a2), .val (.ref a2)]) rfl k_) ?_
  show own_Go p e below T2 (mkF m 12 #[.val (.ref a1), .val (.ref a2), .val (.ref a2)] []) _
  refine own_st (fun t_ k_ => XS.aloadN X2.here hx rfl (hb hby d26_12) rfl rfl k_) ?_
  show own_Go p e below T2 (mkF m 13 #[.val (.ref a1), .val (.ref a2), .val (.ref a2)] [(.ref a1)]) _
  obtain ⟨T3, X3, e3, st3⟩ := getF X2 hx hZ hown (host := "") (Or.inl (hw _ (List.mem_of_getElem? (i := 105) rfl))) Via.refl e2 pF_text_a1 (g := (mkF m 13 #[.val (.ref a1), .val (.ref a2), .val (.ref a2)] [(.ref a1)])) rfl rfl (hb hby d26_13)
  refine own_st st3 ?_
  show own_Go p e below T3 (mkF m 16 #[.val (.ref a1), .val (.ref a2), .val (.ref a2)] [(.ref x)]) _
  refine own_st (fun t_ k_ => XS.aloadN X3.here hx rfl (hb hby d26_16) rfl rfl k_) ?_
  show own_Go p e below T3 (mkF m 17 #[.val (.ref a1), .val (.ref a2), .val (.ref a2)] [(.ref a2), (.ref x)]) _
  obtain ⟨T4, X4, e4, st4⟩ := getF X3 hx hZ hown (host := "") (Or.inl (hw _ (List.mem_of_getElem? (i := 105) rfl))) Via.refl e3 pF_text_a2 (g := (mkF m 17 #[.val (.ref a1), .val (.ref a2), .val (.ref a2)] [(.ref a2), (.ref x)])) rfl rfl (hb hby d26_17)
  refine own_st st4 ?_
  show own_Go p e below T4 (mkF m 20 #[.val (.ref a1), .val (.ref a2), .val (.ref a2)] [(.ref y), (.ref x)]) _
  have hcd5 : StrChars.Road.CodA ([c0, c1, c2] : List Int32) 0 (3 : Int32) ((([c0, c1, c2] : List Int32).map (fun c => c.toInt8.toInt32)).map Value.int) := StrChars.Road.codOf rfl (fun x hx => (hp_x x hx).2)
  have hbd5 : ∀ x ∈ ([c0, c1, c2] : List Int32), ¬ x < 0 ∧ ¬ (65535 : Int32) < x := own_up _ hp_x
  have hcd6 : StrChars.Road.CodA ([d0] : List Int32) 0 (1 : Int32) ((([d0] : List Int32).map (fun c => c.toInt8.toInt32)).map Value.int) := StrChars.Road.codOf rfl (fun x hx => (hp_y x hx).2)
  have hbd6 : ∀ x ∈ ([d0] : List Int32), ¬ x < 0 ∧ ¬ (65535 : Int32) < x := own_up _ hp_y
  obtain ⟨cq7, kq7, qa7, qb7, qc7⟩ := isOf hZ e4 pE_x
  obtain ⟨_, _, ⟨T7, L7, k7, n7⟩, -, X7, ⟨Lc7, hQ7, l7, y7, z7⟩, st7⟩ := X4.virtualBack hx (y := (⟨"java/lang/String", "equals", "(Ljava/lang/Object;)Z"⟩ : MethodName)) (z := (⟨"java/lang/String", "equals", "(Ljava/lang/Object;)Z"⟩ : MethodName)) hown (mvT hZ (hw _ (List.mem_of_getElem? (i := 123) rfl))) (mvT hZ (hw _ (List.mem_of_getElem? (i := 113) rfl))) (notFace_of_selects (args := #[]) (mvT hZ (hw _ (List.mem_of_getElem? (i := 115) rfl)))) (mvT hZ (hw _ (List.mem_of_getElem? (i := 115) rfl))) (mvT hZ (hw _ (List.mem_of_getElem? (i := 114) rfl))) (by decide) (StrChars.Road.eqW (W := 0) hZ heq (kI := 4) (hw _ (List.mem_of_getElem? (i := 7) rfl)) pE_x pF_value_x pF_coder_x pV_tx hcd5 hbd5 (Nat.le_of_ble_eq_true rfl) pE_y pF_value_y pF_coder_y pV_ty hcd6 hbd6 (Nat.le_of_ble_eq_true rfl) (pS_COMPACT_STRINGS.ext pO.2) pP5 (by decide) (by decide)) qa7 qc7 (g := (mkF m 20 #[.val (.ref a1), .val (.ref a2), .val (.ref a2)] [(.ref y), (.ref x)])) rfl (by rw [hml]; rfl) (Steps.refl _) (argsL := [(.ref y)]) (rest := []) (lenOf pd__Ljava_lang_Object__Z rfl) rfl (by show 2 * 0 + _ ≤ _; exact Nat.le_of_eq rfl) (hb hby d26_20) (fun _ _ => ⟨rfl, e4, (by decide : 0 + 0 ≤ _), (by decide : 0 + 0 ≤ _)⟩)
  dsimp only [Pt.U, Pt.locs, Pt.cells, Pt.slots] at X7 l7 y7 z7 st7 hQ7
  try dsimp only [Nat.reduceAdd] at y7 z7
  rw [l7, y7, z7] at X7
  obtain ⟨hcase7, rfl, eH7⟩ := hQ7
  have N7 := Fr.app N0 (Fr.nil n0)
  by_cases hs : ([c0, c1, c2] : List Int32) = [d0]
  · skip
    have hv7 : _ = some (Value.int 1) := hcase7.elim (fun q => q.1) (fun q => absurd hs q.2)
    subst hv7
    refine own_tr st7 ?_
    show own_Go p e below T7 (mkF m 23 #[.val (.ref a1), .val (.ref a2), .val (.ref a2)] [(.int (1 : Int32))]) _
    refine own_st (fun t_ k_ => XS.ifNo X7.here hx rfl (hb hby d26_23) rfl (by decide) k_) ?_
    show own_Go p e below T7 (mkF m 26 #[.val (.ref a1), .val (.ref a2), .val (.ref a2)] []) _
    refine own_st (fun t_ k_ => XS.iconst X7.here hx rfl (hb hby d26_26) k_) ?_
    show own_Go p e below T7 (mkF m 27 #[.val (.ref a1), .val (.ref a2), .val (.ref a2)] [(.int (1 : Int32))]) _
    refine own_st (fun t_ k_ => XS.goto X7.here hx rfl (pc0 := 27) (pc' := 31) rfl (hb hby d26_27) (by decide) (by decide) k_) ?_
    show own_Go p e below T7 (mkF m 31 #[.val (.ref a1), .val (.ref a2), .val (.ref a2)] [(.int (1 : Int32))]) _
    obtain ⟨fs, hr, hrun, hended, hW, hsame⟩ := X7.leave (v := some (.int (1 : Int32))) (fun h => by rw [Bd.returns] at h; cases h)
    refine own_fin (retN X7 hx (t := .boolean) Bd.returns (by simp) (hb hby d26_31) hr) ⟨hrun, hended, _, _, rfl, ?_, ⟨_, rfl⟩, hW, hsame.mono (by decide) (by decide)⟩
    show Q_rmEq3 Z a1 a2 x tx kx y ty ky c0 c1 c2 d0 zc fm h0 n0 _ T7.heap _
    rw [eH7]
    exact ⟨(1 : Int32), rfl, N7, rfl, (Or.inl ⟨rfl, hs⟩)⟩
  · skip
    have hv7 : _ = some (Value.int 0) := hcase7.elim (fun q => absurd q.2 hs) (fun q => q.1)
    subst hv7
    refine own_tr st7 ?_
    show own_Go p e below T7 (mkF m 23 #[.val (.ref a1), .val (.ref a2), .val (.ref a2)] [(.int (0 : Int32))]) _
    refine own_st (fun t_ k_ => XS.ifYes X7.here hx rfl (pc0 := 23) (pc' := 30) rfl (hb hby d26_23) rfl (by decide) (by decide) (by decide) k_) ?_
    show own_Go p e below T7 (mkF m 30 #[.val (.ref a1), .val (.ref a2), .val (.ref a2)] []) _
    refine own_st (fun t_ k_ => XS.iconst X7.here hx rfl (hb hby d26_30) k_) ?_
    show own_Go p e below T7 (mkF m 31 #[.val (.ref a1), .val (.ref a2), .val (.ref a2)] [(.int (0 : Int32))]) _
    obtain ⟨fs, hr, hrun, hended, hW, hsame⟩ := X7.leave (v := some (.int (0 : Int32))) (fun h => by rw [Bd.returns] at h; cases h)
    refine own_fin (retN X7 hx (t := .boolean) Bd.returns (by simp) (hb hby d26_31) hr) ⟨hrun, hended, _, _, rfl, ?_, ⟨_, rfl⟩, hW, hsame.mono (by decide) (by decide)⟩
    show Q_rmEq3 Z a1 a2 x tx kx y ty ky c0 c1 c2 d0 zc fm h0 n0 _ T7.heap _
    rw [eH7]
    exact ⟨(0 : Int32), rfl, N7, rfl, (Or.inr ⟨rfl, hs⟩)⟩
theorem ef_rmEq4 (m : MethodId) (x0 : Addr) (x1 : Addr) : entryFrame m #[(.ref x0), (.ref x1)] 3 = mkF m 0 #[.val (.ref x0), .val (.ref x1), .unset] [] := by first | (simp [entryFrame, mkF, argsToLocals, Value.category]; done) | rfl
def Q_rmEq4 (Z : State) (a1 : Addr) (a2 : Addr) (x : Addr) (tx : Addr) (kx : ClassId) (y : Addr) (ty : Addr) (ky : ClassId) (c0 : Int32) (c1 : Int32) (c2 : Int32) (c3 : Int32) (d0 : Int32) (zc : Int32) (fm : Value) (h0 : Heap) (n0 : Nat) (v : Option Value) (h : Heap) (L : List Loc) : Prop := ∃ r : Int32, v = some (.int r) ∧ Fr n0 L ∧ h = h0 ∧ ((r = (1 : Int32) ∧ ([c0, c1, c2, c3] : List Int32) = [d0]) ∨ (r = (0 : Int32) ∧ ¬ ([c0, c1, c2, c3] : List Int32) = [d0]))
set_option maxRecDepth 65536 in
set_option maxHeartbeats 40000000 in
theorem rmEq4 (l : Launch) (Z : State) (a0 : Array Value) (hw : ∀ d ∈ tables_1, d.before a0 Z = true) (ws : List Jvm.Cond) (a1 : Addr) (a2 : Addr) (x : Addr) (tx : Addr) (kx : ClassId) (y : Addr) (ty : Addr) (ky : ClassId) (c0 : Int32) (c1 : Int32) (c2 : Int32) (c3 : Int32) (d0 : Int32) (zc : Int32) (fm : Value) (h0 : Heap) (n0 : Nat) (Z0 : n0 ≤ h0.size) (pF_text_a1 : Fld Z h0 a1 "com/example/faithful_courier/faithfulcourier/core/Name" "text" "Ljava/lang/String;" (.ref x)) (pE_a2 : Exa Z h0 a2 "com/example/faithful_courier/faithfulcourier/core/Name") (pF_text_a2 : Fld Z h0 a2 "com/example/faithful_courier/faithfulcourier/core/Name" "text" "Ljava/lang/String;" (.ref y)) (pE_x : Exa Z h0 x "java/lang/String") (pF_value_x : Fld Z h0 x "java/lang/String" "value" "[B" (.ref tx)) (pF_coder_x : Fld Z h0 x "java/lang/String" "coder" "B" (.int (0 : Int32))) (pV_tx : Arv Z h0 tx kx .byte (4 : Int32) ((([c0, c1, c2, c3] : List Int32).map (fun c => c.toInt8.toInt32)).map Value.int) (.int 0)) (hp_x : (∀ c ∈ ([c0, c1, c2, c3] : List Int32), ¬ c < 0 ∧ ¬ (255 : Int32) < c)) (pE_y : Exa Z h0 y "java/lang/String") (pF_value_y : Fld Z h0 y "java/lang/String" "value" "[B" (.ref ty)) (pF_coder_y : Fld Z h0 y "java/lang/String" "coder" "B" (.int (0 : Int32))) (pV_ty : Arv Z h0 ty ky .byte (1 : Int32) ((([d0] : List Int32).map (fun c => c.toInt8.toInt32)).map Value.int) (.int 0)) (hp_y : (∀ c ∈ ([d0] : List Int32), ¬ c < 0 ∧ ¬ (255 : Int32) < c)) (pS_COMPACT_STRINGS : Sta Z Z.heap "java/lang/String" "COMPACT_STRINGS" "Z" (.int zc)) (pP5 : (¬ (zc = (0 : Int32)))) (pS_SIOOBE_FORMATTER : Sta Z Z.heap "jdk/internal/util/Preconditions" "SIOOBE_FORMATTER" "Ljava/util/function/BiFunction;" fm) (rfm : (fm.isRef = true)) (pO : Old Z n0 h0) :
    MetFree l (⟨"com/example/faithful_courier/faithfulcourier/core/Name", "equals", "(Ljava/lang/Object;)Z"⟩ : MethodName) (head1 (Jvm.Cond.code (⟨"com/example/faithful_courier/faithfulcourier/core/Name", "equals", "(Ljava/lang/Object;)Z"⟩ : MethodName) prog_2_method_4_code 3 (some .boolean) :: ws) ({ frames := 2, cells := 0, slots := 0, locals := 28 } : Room)) (fun a U => a = #[(.ref a1), (.ref a2)] ∧ Z.Warmed39 U.vm ∧ U.heap = h0) (fun _ _ _ _ _ => True) (fun _ U o U' => ∃ v L, o = .returned v ∧ Q_rmEq4 Z a1 a2 x tx kx y ty ky c0 c1 c2 c3 d0 zc fm h0 n0 v U'.heap L ∧ FrameEnd U o U' L ({ frames := 2, cells := 0, slots := 0, locals := 28 } : Room).cells ({ frames := 2, cells := 0, slots := 0, locals := 28 } : Room).slots) := by
  refine MetFree.of_bodySF (plainFor_of_name pn_26) hisR ?_
  intro p e s m args below meth c s₁ Bd hml0 hP hK
  obtain ⟨rfl, hZ, hh⟩ := hP
  have hx := Bd.exec
  have hby := Bd.bytes
  have hml : c.maxLocals = 3 := hml0
  have hown : s.vm.findClass "com/example/faithful_courier/faithfulcourier/core/Name" = some m.cls := findClass_of_methodNamed Bd.named
  have hnm := (name_of_methodNamed Bd.named Bd.method).1
  have X0 : Stand p l e ({ frames := 2, cells := 0, slots := 0, locals := 28 } : Room) s m #[(.ref a1), (.ref a2)] below meth c s₁ [] 0 0 := Stand.of_body Bd
  have e0 : s₁.heap = h0 := by rw [← hh, Bd.state]; rfl
  have N0 := Fr.nil n0
  refine own_enter (ef_rmEq4 m a1 a2) ?_
  have heq : ∀ d ∈ StrChars.Road.wordsEq, d.before a0 Z = true := fun d hd => hw d ((by decide +kernel : ∀ d ∈ StrChars.Road.wordsEq, d ∈ tables_1) d hd)
  refine own_st (fun t_ k_ => XS.aloadN X0.here hx rfl (hb hby d26_0) rfl rfl k_) ?_
  show own_Go p e below s₁ (mkF m 1 #[.val (.ref a1), .val (.ref a2), .unset] [(.ref a2)]) _
  obtain ⟨T1, X1, e1, st1⟩ := instY X0 hx hZ hown (hw _ (List.mem_of_getElem? (i := 99) rfl)) e0 (Ins.self pE_a2) (g := (mkF m 1 #[.val (.ref a1), .val (.ref a2), .unset] [(.ref a2)])) rfl rfl (hb hby d26_1)
  refine own_st st1 ?_
  show own_Go p e below T1 (mkF m 4 #[.val (.ref a1), .val (.ref a2), .unset] [(.int (1 : Int32))]) _
  refine own_st (fun t_ k_ => XS.ifNo X1.here hx rfl (hb hby d26_4) rfl (by decide) k_) ?_
  show own_Go p e below T1 (mkF m 7 #[.val (.ref a1), .val (.ref a2), .unset] []) _
  refine own_st (fun t_ k_ => XS.aloadN X1.here hx rfl (hb hby d26_7) rfl rfl k_) ?_
  show own_Go p e below T1 (mkF m 8 #[.val (.ref a1), .val (.ref a2), .unset] [(.ref a2)]) _
  obtain ⟨T2, X2, e2, st2⟩ := castY X1 hx hZ hown (hw _ (List.mem_of_getElem? (i := 99) rfl)) e1 (Ins.self pE_a2) (g := (mkF m 8 #[.val (.ref a1), .val (.ref a2), .unset] [(.ref a2)])) rfl rfl (hb hby d26_8)
  refine own_st st2 ?_
  show own_Go p e below T2 (mkF m 11 #[.val (.ref a1), .val (.ref a2), .unset] [(.ref a2)]) _
  refine own_st (fun t_ k_ => XS.astoreN X2.here hx rfl (hb hby d26_11) rfl rfl (l' := #[.val (.ref a1), .val (.ref a2), .val (.ref a2)]) rfl k_) ?_
  show own_Go p e below T2 (mkF m 12 #[.val (.ref a1), .val (.ref a2), .val (.ref a2)] []) _
  refine own_st (fun t_ k_ => XS.aloadN X2.here hx rfl (hb hby d26_12) rfl rfl k_) ?_
  show own_Go p e below T2 (mkF m 13 #[.val (.ref a1), .val (.ref a2), .val (.ref a2)] [(.ref a1)]) _
  obtain ⟨T3, X3, e3, st3⟩ := getF X2 hx hZ hown (host := "") (Or.inl (hw _ (List.mem_of_getElem? (i := 105) rfl))) Via.refl e2 pF_text_a1 (g := (mkF m 13 #[.val (.ref a1), .val (.ref a2), .val (.ref a2)] [(.ref a1)])) rfl rfl (hb hby d26_13)
  refine own_st st3 ?_
  show own_Go p e below T3 (mkF m 16 #[.val (.ref a1), .val (.ref a2), .val (.ref a2)] [(.ref x)]) _
  refine own_st (fun t_ k_ => XS.aloadN X3.here hx rfl (hb hby d26_16) rfl rfl k_) ?_
  show own_Go p e below T3 (mkF m 17 #[.val (.ref a1), .val (.ref a2), .val (.ref a2)] [(.ref a2), (.ref x)]) _
  obtain ⟨T4, X4, e4, st4⟩ := getF X3 hx hZ hown (host := "") (Or.inl (hw _ (List.mem_of_getElem? (i := 105) rfl))) Via.refl e3 pF_text_a2 (g := (mkF m 17 #[.val (.ref a1), .val (.ref a2), .val (.ref a2)] [(.ref a2), (.ref x)])) rfl rfl (hb hby d26_17)
  refine own_st st4 ?_
  show own_Go p e below T4 (mkF m 20 #[.val (.ref a1), .val (.ref a2), .val (.ref a2)] [(.ref y), (.ref x)]) _
  have hcd5 : StrChars.Road.CodA ([c0, c1, c2, c3] : List Int32) 0 (4 : Int32) ((([c0, c1, c2, c3] : List Int32).map (fun c => c.toInt8.toInt32)).map Value.int) := StrChars.Road.codOf rfl (fun x hx => (hp_x x hx).2)
  have hbd5 : ∀ x ∈ ([c0, c1, c2, c3] : List Int32), ¬ x < 0 ∧ ¬ (65535 : Int32) < x := own_up _ hp_x
  have hcd6 : StrChars.Road.CodA ([d0] : List Int32) 0 (1 : Int32) ((([d0] : List Int32).map (fun c => c.toInt8.toInt32)).map Value.int) := StrChars.Road.codOf rfl (fun x hx => (hp_y x hx).2)
  have hbd6 : ∀ x ∈ ([d0] : List Int32), ¬ x < 0 ∧ ¬ (65535 : Int32) < x := own_up _ hp_y
  obtain ⟨cq7, kq7, qa7, qb7, qc7⟩ := isOf hZ e4 pE_x
  obtain ⟨_, _, ⟨T7, L7, k7, n7⟩, -, X7, ⟨Lc7, hQ7, l7, y7, z7⟩, st7⟩ := X4.virtualBack hx (y := (⟨"java/lang/String", "equals", "(Ljava/lang/Object;)Z"⟩ : MethodName)) (z := (⟨"java/lang/String", "equals", "(Ljava/lang/Object;)Z"⟩ : MethodName)) hown (mvT hZ (hw _ (List.mem_of_getElem? (i := 123) rfl))) (mvT hZ (hw _ (List.mem_of_getElem? (i := 113) rfl))) (notFace_of_selects (args := #[]) (mvT hZ (hw _ (List.mem_of_getElem? (i := 115) rfl)))) (mvT hZ (hw _ (List.mem_of_getElem? (i := 115) rfl))) (mvT hZ (hw _ (List.mem_of_getElem? (i := 114) rfl))) (by decide) (StrChars.Road.eqW (W := 0) hZ heq (kI := 4) (hw _ (List.mem_of_getElem? (i := 7) rfl)) pE_x pF_value_x pF_coder_x pV_tx hcd5 hbd5 (Nat.le_of_ble_eq_true rfl) pE_y pF_value_y pF_coder_y pV_ty hcd6 hbd6 (Nat.le_of_ble_eq_true rfl) (pS_COMPACT_STRINGS.ext pO.2) pP5 (by decide) (by decide)) qa7 qc7 (g := (mkF m 20 #[.val (.ref a1), .val (.ref a2), .val (.ref a2)] [(.ref y), (.ref x)])) rfl (by rw [hml]; rfl) (Steps.refl _) (argsL := [(.ref y)]) (rest := []) (lenOf pd__Ljava_lang_Object__Z rfl) rfl (by show 2 * 0 + _ ≤ _; exact Nat.le_of_eq rfl) (hb hby d26_20) (fun _ _ => ⟨rfl, e4, (by decide : 0 + 0 ≤ _), (by decide : 0 + 0 ≤ _)⟩)
  dsimp only [Pt.U, Pt.locs, Pt.cells, Pt.slots] at X7 l7 y7 z7 st7 hQ7
  try dsimp only [Nat.reduceAdd] at y7 z7
  rw [l7, y7, z7] at X7
  obtain ⟨hcase7, rfl, eH7⟩ := hQ7
  have N7 := Fr.app N0 (Fr.nil n0)
  by_cases hs : ([c0, c1, c2, c3] : List Int32) = [d0]
  · skip
    have hv7 : _ = some (Value.int 1) := hcase7.elim (fun q => q.1) (fun q => absurd hs q.2)
    subst hv7
    refine own_tr st7 ?_
    show own_Go p e below T7 (mkF m 23 #[.val (.ref a1), .val (.ref a2), .val (.ref a2)] [(.int (1 : Int32))]) _
    refine own_st (fun t_ k_ => XS.ifNo X7.here hx rfl (hb hby d26_23) rfl (by decide) k_) ?_
    show own_Go p e below T7 (mkF m 26 #[.val (.ref a1), .val (.ref a2), .val (.ref a2)] []) _
    refine own_st (fun t_ k_ => XS.iconst X7.here hx rfl (hb hby d26_26) k_) ?_
    show own_Go p e below T7 (mkF m 27 #[.val (.ref a1), .val (.ref a2), .val (.ref a2)] [(.int (1 : Int32))]) _
    refine own_st (fun t_ k_ => XS.goto X7.here hx rfl (pc0 := 27) (pc' := 31) rfl (hb hby d26_27) (by decide) (by decide) k_) ?_
    show own_Go p e below T7 (mkF m 31 #[.val (.ref a1), .val (.ref a2), .val (.ref a2)] [(.int (1 : Int32))]) _
    obtain ⟨fs, hr, hrun, hended, hW, hsame⟩ := X7.leave (v := some (.int (1 : Int32))) (fun h => by rw [Bd.returns] at h; cases h)
    refine own_fin (retN X7 hx (t := .boolean) Bd.returns (by simp) (hb hby d26_31) hr) ⟨hrun, hended, _, _, rfl, ?_, ⟨_, rfl⟩, hW, hsame.mono (by decide) (by decide)⟩
    show Q_rmEq4 Z a1 a2 x tx kx y ty ky c0 c1 c2 c3 d0 zc fm h0 n0 _ T7.heap _
    rw [eH7]
    exact ⟨(1 : Int32), rfl, N7, rfl, (Or.inl ⟨rfl, hs⟩)⟩
  · skip
    have hv7 : _ = some (Value.int 0) := hcase7.elim (fun q => absurd q.2 hs) (fun q => q.1)
    subst hv7
    refine own_tr st7 ?_
    show own_Go p e below T7 (mkF m 23 #[.val (.ref a1), .val (.ref a2), .val (.ref a2)] [(.int (0 : Int32))]) _
    refine own_st (fun t_ k_ => XS.ifYes X7.here hx rfl (pc0 := 23) (pc' := 30) rfl (hb hby d26_23) rfl (by decide) (by decide) (by decide) k_) ?_
    show own_Go p e below T7 (mkF m 30 #[.val (.ref a1), .val (.ref a2), .val (.ref a2)] []) _
    refine own_st (fun t_ k_ => XS.iconst X7.here hx rfl (hb hby d26_30) k_) ?_
    show own_Go p e below T7 (mkF m 31 #[.val (.ref a1), .val (.ref a2), .val (.ref a2)] [(.int (0 : Int32))]) _
    obtain ⟨fs, hr, hrun, hended, hW, hsame⟩ := X7.leave (v := some (.int (0 : Int32))) (fun h => by rw [Bd.returns] at h; cases h)
    refine own_fin (retN X7 hx (t := .boolean) Bd.returns (by simp) (hb hby d26_31) hr) ⟨hrun, hended, _, _, rfl, ?_, ⟨_, rfl⟩, hW, hsame.mono (by decide) (by decide)⟩
    show Q_rmEq4 Z a1 a2 x tx kx y ty ky c0 c1 c2 c3 d0 zc fm h0 n0 _ T7.heap _
    rw [eH7]
    exact ⟨(0 : Int32), rfl, N7, rfl, (Or.inr ⟨rfl, hs⟩)⟩
theorem d9_0 : decode jdk_43_method_3_code 0 = .ok (.iload_n 0, 1) := by decide +kernel
theorem d9_1 : decode jdk_43_method_3_code 1 = .ok (.sipush 255, 3) := by decide +kernel
theorem d9_4 : decode jdk_43_method_3_code 4 = .ok (.if_icmp .gt 7, 3) := by decide +kernel
theorem d9_7 : decode jdk_43_method_3_code 7 = .ok (.iconst 1, 1) := by decide +kernel
theorem d9_8 : decode jdk_43_method_3_code 8 = .ok (.goto 4, 3) := by decide +kernel
theorem d9_12 : decode jdk_43_method_3_code 12 = .ok (.ireturn, 1) := by decide +kernel
theorem pn_9 : plainName "java/lang/StringLatin1" = true := by first | (simp [plainName, overriddenIn]; done) | decide +kernel
theorem ef_rmCe (m : MethodId) (x0 : Int32) : entryFrame m #[(.int x0)] 1 = mkF m 0 #[.val (.int x0)] [] := by first | (simp [entryFrame, mkF, argsToLocals, Value.category]; done) | rfl
def Q_rmCe (Z : State) (c0 : Int32) (h0 : Heap) (n0 : Nat) (v : Option Value) (h : Heap) (L : List Loc) : Prop := v = some (.int (1 : Int32)) ∧ Fr n0 L ∧ h = h0
set_option maxRecDepth 65536 in
set_option maxHeartbeats 40000000 in
theorem rmCe (l : Launch) (Z : State) (a0 : Array Value) (hw : ∀ d ∈ tables_1, d.before a0 Z = true) (ws : List Jvm.Cond) (c0 : Int32) (h0 : Heap) (n0 : Nat) (Z0 : n0 ≤ h0.size) (h255 : (¬ ((255 : Int32) < c0))) :
    MetFree l (⟨"java/lang/StringLatin1", "canEncode", "(C)Z"⟩ : MethodName) (head1 (Jvm.Cond.code (⟨"java/lang/StringLatin1", "canEncode", "(C)Z"⟩ : MethodName) jdk_43_method_3_code 1 (some .boolean) :: ws) ({ frames := 0, cells := 0, slots := 0, locals := 0 } : Room)) (fun a U => a = #[(.int c0)] ∧ Z.Warmed39 U.vm ∧ U.heap = h0) (fun _ _ _ _ _ => True) (fun _ U o U' => ∃ v L, o = .returned v ∧ Q_rmCe Z c0 h0 n0 v U'.heap L ∧ FrameEnd U o U' L ({ frames := 0, cells := 0, slots := 0, locals := 0 } : Room).cells ({ frames := 0, cells := 0, slots := 0, locals := 0 } : Room).slots) := by
  refine MetFree.of_bodySF (plainFor_of_name pn_9) hisR ?_
  intro p e s m args below meth c s₁ Bd hml0 hP hK
  obtain ⟨rfl, hZ, hh⟩ := hP
  have hx := Bd.exec
  have hby := Bd.bytes
  have hml : c.maxLocals = 1 := hml0
  have hown : s.vm.findClass "java/lang/StringLatin1" = some m.cls := findClass_of_methodNamed Bd.named
  have hnm := (name_of_methodNamed Bd.named Bd.method).1
  have X0 : Stand p l e ({ frames := 0, cells := 0, slots := 0, locals := 0 } : Room) s m #[(.int c0)] below meth c s₁ [] 0 0 := Stand.of_body Bd
  have e0 : s₁.heap = h0 := by rw [← hh, Bd.state]; rfl
  have N0 := Fr.nil n0
  refine own_enter (ef_rmCe m c0) ?_
  refine own_st (fun t_ k_ => XS.iloadN X0.here hx rfl (hb hby d9_0) rfl k_) ?_
  show own_Go p e below s₁ (mkF m 1 #[.val (.int c0)] [(.int c0)]) _
  refine own_st (fun t_ k_ => XS.sipush X0.here hx rfl (hb hby d9_1) k_) ?_
  show own_Go p e below s₁ (mkF m 4 #[.val (.int c0)] [(.int (255 : Int32)), (.int c0)]) _
  refine own_st (fun t_ k_ => XS.icmpNo X0.here hx rfl (hb hby d9_4) rfl (flt h255).2.2.1 k_) ?_
  show own_Go p e below s₁ (mkF m 7 #[.val (.int c0)] []) _
  refine own_st (fun t_ k_ => XS.iconst X0.here hx rfl (hb hby d9_7) k_) ?_
  show own_Go p e below s₁ (mkF m 8 #[.val (.int c0)] [(.int (1 : Int32))]) _
  refine own_st (fun t_ k_ => XS.goto X0.here hx rfl (pc0 := 8) (pc' := 12) rfl (hb hby d9_8) (by decide) (by decide) k_) ?_
  show own_Go p e below s₁ (mkF m 12 #[.val (.int c0)] [(.int (1 : Int32))]) _
  obtain ⟨fs, hr, hrun, hended, hW, hsame⟩ := X0.leave (v := some (.int (1 : Int32))) (fun h => by rw [Bd.returns] at h; cases h)
  refine own_fin (retN X0 hx (t := .boolean) Bd.returns (by simp) (hb hby d9_12) hr) ⟨hrun, hended, _, _, rfl, ?_, ⟨_, rfl⟩, hW, hsame.mono (by decide) (by decide)⟩
  show Q_rmCe Z c0 h0 n0 _ s₁.heap _
  rw [e0]
  exact ⟨rfl, N0, rfl⟩
theorem own_narb (c : Int32) : nar .byte (c.toInt8.toInt32) = c.toInt8.toInt32 := by show (c.toInt8.toInt32).toInt8.toInt32 = _; rw [Int8.toInt8_toInt32]
theorem d10_0 : decode jdk_43_method_46_code 0 = .ok (.iconst 1, 1) := by decide +kernel
theorem d10_1 : decode jdk_43_method_46_code 1 = .ok (.newarray .byte, 2) := by decide +kernel
theorem d10_3 : decode jdk_43_method_46_code 3 = .ok (.dup, 1) := by decide +kernel
theorem d10_4 : decode jdk_43_method_46_code 4 = .ok (.iconst 0, 1) := by decide +kernel
theorem d10_5 : decode jdk_43_method_46_code 5 = .ok (.iload_n 0, 1) := by decide +kernel
theorem d10_6 : decode jdk_43_method_46_code 6 = .ok (.i2b, 1) := by decide +kernel
theorem d10_7 : decode jdk_43_method_46_code 7 = .ok (.bastore, 1) := by decide +kernel
theorem d10_8 : decode jdk_43_method_46_code 8 = .ok (.areturn, 1) := by decide +kernel
theorem pn_10 : plainName "java/lang/StringLatin1" = true := by first | (simp [plainName, overriddenIn]; done) | decide +kernel
theorem ef_rmTb (m : MethodId) (x0 : Int32) : entryFrame m #[(.int x0)] 1 = mkF m 0 #[.val (.int x0)] [] := by first | (simp [entryFrame, mkF, argsToLocals, Value.category]; done) | rfl
def Q_rmTb (Z : State) (c0 : Int32) (h0 : Heap) (n0 : Nat) (v : Option Value) (h : Heap) (L : List Loc) : Prop := ∃ t : Addr, ∃ kb : ClassId, v = some (.ref t) ∧ Fr n0 L ∧ Keep h0 h [] ∧ Arv Z h t kb .byte (1 : Int32) ((([c0] : List Int32).map (fun c => c.toInt8.toInt32)).map Value.int) (.int 0) ∧ h0.size ≤ t ∧ n0 ≤ t
set_option maxRecDepth 65536 in
set_option maxHeartbeats 40000000 in
theorem rmTb (l : Launch) (Z : State) (a0 : Array Value) (hw : ∀ d ∈ tables_1, d.before a0 Z = true) (ws : List Jvm.Cond) (c0 : Int32) (h0 : Heap) (n0 : Nat) (Z0 : n0 ≤ h0.size) :
    MetFree l (⟨"java/lang/StringLatin1", "toBytes", "(C)[B"⟩ : MethodName) (head1 (Jvm.Cond.code (⟨"java/lang/StringLatin1", "toBytes", "(C)[B"⟩ : MethodName) jdk_43_method_46_code 1 (some (.array .byte)) :: ws) ({ frames := 0, cells := 1, slots := 1, locals := 0 } : Room)) (fun a U => a = #[(.int c0)] ∧ Z.Warmed39 U.vm ∧ U.heap = h0) (fun _ _ _ _ _ => True) (fun _ U o U' => ∃ v L, o = .returned v ∧ Q_rmTb Z c0 h0 n0 v U'.heap L ∧ FrameEnd U o U' L ({ frames := 0, cells := 1, slots := 1, locals := 0 } : Room).cells ({ frames := 0, cells := 1, slots := 1, locals := 0 } : Room).slots) := by
  refine MetFree.of_bodySF (plainFor_of_name pn_10) hisR ?_
  intro p e s m args below meth c s₁ Bd hml0 hP hK
  obtain ⟨rfl, hZ, hh⟩ := hP
  have hx := Bd.exec
  have hby := Bd.bytes
  have hml : c.maxLocals = 1 := hml0
  have hown : s.vm.findClass "java/lang/StringLatin1" = some m.cls := findClass_of_methodNamed Bd.named
  have hnm := (name_of_methodNamed Bd.named Bd.method).1
  have X0 : Stand p l e ({ frames := 0, cells := 1, slots := 1, locals := 0 } : Room) s m #[(.int c0)] below meth c s₁ [] 0 0 := Stand.of_body Bd
  have e0 : s₁.heap = h0 := by rw [← hh, Bd.state]; rfl
  have N0 := Fr.nil n0
  refine own_enter (ef_rmTb m c0) ?_
  refine own_st (fun t_ k_ => XS.iconst X0.here hx rfl (hb hby d10_0) k_) ?_
  show own_Go p e below s₁ (mkF m 1 #[.val (.int c0)] [(.int (1 : Int32))]) _
  obtain ⟨T1, h1, k1, X1, e1, E1, A1, st1⟩ := newP X0 hx hZ (hw _ (List.mem_of_getElem? (i := 24) rfl)) e0 (g := (mkF m 1 #[.val (.int c0)] [(.int (1 : Int32))])) rfl (hb hby d10_1) rfl (by decide) (cap := 1) (by decide) (by decide) (by decide) (by decide)
  obtain ⟨b1, g1⟩ : ∃ z, z = h0.size := ⟨_, rfl⟩
  rw [← g1] at A1 st1
  have G1 : n0 ≤ b1 := Nat.le_trans Z0 (Nat.le_of_eq g1.symm)
  have B1 : h0.size ≤ b1 := Nat.le_trans (Keep.refl h0 []).1 (Nat.le_of_eq g1.symm)
  have K2 : Keep h0 h1 [] := (Keep.refl h0 []).ext E1
  have V1 : Arv Z h1 b1 k1 .byte (1 : Int32) [(.int (0 : Int32))] (.int (0 : Int32)) := (Arv.new A1 (by decide)).pad (pad_rep [] (.int (0 : Int32)) 1)
  refine own_st st1 ?_
  show own_Go p e below T1 (mkF m 3 #[.val (.int c0)] [(.ref b1)]) _
  refine own_st (fun t_ k_ => XS.dup X1.here hx rfl (hb hby d10_3) rfl rfl k_) ?_
  show own_Go p e below T1 (mkF m 4 #[.val (.int c0)] [(.ref b1), (.ref b1)]) _
  refine own_st (fun t_ k_ => XS.iconst X1.here hx rfl (hb hby d10_4) k_) ?_
  show own_Go p e below T1 (mkF m 5 #[.val (.int c0)] [(.int (0 : Int32)), (.ref b1), (.ref b1)]) _
  refine own_st (fun t_ k_ => XS.iloadN X1.here hx rfl (hb hby d10_5) rfl k_) ?_
  show own_Go p e below T1 (mkF m 6 #[.val (.int c0)] [(.int c0), (.int (0 : Int32)), (.ref b1), (.ref b1)]) _
  refine own_st (fun t_ k_ => XS.i2b X1.here hx rfl (hb hby d10_6) rfl k_) ?_
  show own_Go p e below T1 (mkF m 7 #[.val (.int c0)] [(.int (c0.toInt8.toInt32)), (.int (0 : Int32)), (.ref b1), (.ref b1)]) _
  obtain ⟨cl3, Ar3, q3, Sz3, Nn3, Hh3, Gg3⟩ := id V1
  have hin3 : ¬ ((0 : Int32) < 0 ∨ cl3.slots.size ≤ ((0 : Int32)).toNatClampNeg) := inb_of Sz3 ⟨by decide, by decide⟩
  obtain ⟨T4, h4, X4, e4, W4, st4⟩ := stB X1 hx hZ e1 Ar3 (j := (0 : Int32)) hin3 (g := (mkF m 7 #[.val (.int c0)] [(.int (c0.toInt8.toInt32)), (.int (0 : Int32)), (.ref b1), (.ref b1)])) rfl rfl (hb hby d10_7)
  have V4 : Arv Z h4 b1 k1 .byte (1 : Int32) [(.int (nar .byte (c0.toInt8.toInt32)))] (.int (0 : Int32)) := Arv.set Ar3 q3 Sz3 Nn3 Hh3 Gg3 (fits_nar_byte _) W4 0 rfl (Nat.le_of_ble_eq_true rfl)
  rw [own_narb] at V4
  have K5 : Keep h0 h4 [] := K2.wr W4 (Or.inr B1)
  have N4 := Fr.snoc X4 N0 G1
  refine own_st st4 ?_
  show own_Go p e below T4 (mkF m 8 #[.val (.int c0)] [(.ref b1)]) _
  obtain ⟨fs, hr, hrun, hended, hW, hsame⟩ := X4.leave (v := some (.ref b1)) (fun h => by rw [Bd.returns] at h; cases h)
  refine own_fin (own_retR X4 hx rfl Bd.returns rfl (hb hby d10_8) hr) ⟨hrun, hended, _, _, rfl, ?_, ⟨_, rfl⟩, hW, hsame.mono (by decide) (by decide)⟩
  show Q_rmTb Z c0 h0 n0 _ T4.heap _
  rw [e4]
  exact ⟨b1, k1, rfl, N4, K5, V4, B1, G1⟩
theorem d11_0 : decode jdk_42_method_151_code 0 = .ok (.aload_n 0, 1) := by decide +kernel
theorem d11_1 : decode jdk_42_method_151_code 1 = .ok (.invokespecial 1, 3) := by decide +kernel
theorem d11_4 : decode jdk_42_method_151_code 4 = .ok (.aload_n 0, 1) := by decide +kernel
theorem d11_5 : decode jdk_42_method_151_code 5 = .ok (.aload_n 1, 1) := by decide +kernel
theorem d11_6 : decode jdk_42_method_151_code 6 = .ok (.putfield 9, 3) := by decide +kernel
theorem d11_9 : decode jdk_42_method_151_code 9 = .ok (.aload_n 0, 1) := by decide +kernel
theorem d11_10 : decode jdk_42_method_151_code 10 = .ok (.iload_n 2, 1) := by decide +kernel
theorem d11_11 : decode jdk_42_method_151_code 11 = .ok (.putfield 15, 3) := by decide +kernel
theorem d11_14 : decode jdk_42_method_151_code 14 = .ok (.return_, 1) := by decide +kernel
theorem pn_11 : plainName "java/lang/String" = true := by first | (simp [plainName, overriddenIn]; done) | decide +kernel
theorem ef_rmIb (m : MethodId) (x0 : Addr) (x1 : Addr) (x2 : Int32) : entryFrame m #[(.ref x0), (.ref x1), (.int x2)] 3 = mkF m 0 #[.val (.ref x0), .val (.ref x1), .val (.int x2)] [] := by first | (simp [entryFrame, mkF, argsToLocals, Value.category]; done) | rfl
def Q_rmIb (Z : State) (a1 : Addr) (a2 : Addr) (u1 : Value) (u2 : Value) (h0 : Heap) (n0 : Nat) (v : Option Value) (h : Heap) (L : List Loc) : Prop := v = none ∧ Fr n0 L ∧ Keep h0 h [a1] ∧ Exa Z h a1 "java/lang/String" ∧ Fld Z h a1 "java/lang/String" "value" "[B" (.ref a2) ∧ Fld Z h a1 "java/lang/String" "coder" "B" (.int (0 : Int32))
set_option maxRecDepth 65536 in
set_option maxHeartbeats 40000000 in
theorem rmIb (l : Launch) (Z : State) (a0 : Array Value) (hw : ∀ d ∈ tables_1, d.before a0 Z = true) (ws : List Jvm.Cond) (a1 : Addr) (a2 : Addr) (u1 : Value) (u2 : Value) (h0 : Heap) (n0 : Nat) (Z0 : n0 ≤ h0.size) (pE_a1 : Exa Z h0 a1 "java/lang/String") (pF_value_a1 : Fld Z h0 a1 "java/lang/String" "value" "[B" u1) (pF_coder_a1 : Fld Z h0 a1 "java/lang/String" "coder" "B" u2) (pG_a1 : n0 ≤ a1) :
    MetFree l (⟨"java/lang/String", "<init>", "([BB)V"⟩ : MethodName) (head1 (Jvm.Cond.code (⟨"java/lang/String", "<init>", "([BB)V"⟩ : MethodName) jdk_42_method_151_code 3 none :: ws) ({ frames := 1, cells := 0, slots := 0, locals := 12 } : Room)) (fun a U => a = #[(.ref a1), (.ref a2), (.int (0 : Int32))] ∧ Z.Warmed39 U.vm ∧ U.heap = h0) (fun _ _ _ _ _ => True) (fun _ U o U' => ∃ v L, o = .returned v ∧ Q_rmIb Z a1 a2 u1 u2 h0 n0 v U'.heap L ∧ FrameEnd U o U' L ({ frames := 1, cells := 0, slots := 0, locals := 12 } : Room).cells ({ frames := 1, cells := 0, slots := 0, locals := 12 } : Room).slots) := by
  refine MetFree.of_bodySF (plainFor_of_name pn_11) hisR ?_
  intro p e s m args below meth c s₁ Bd hml0 hP hK
  obtain ⟨rfl, hZ, hh⟩ := hP
  have hx := Bd.exec
  have hby := Bd.bytes
  have hml : c.maxLocals = 3 := hml0
  have hown : s.vm.findClass "java/lang/String" = some m.cls := findClass_of_methodNamed Bd.named
  have hnm := (name_of_methodNamed Bd.named Bd.method).1
  have X0 : Stand p l e ({ frames := 1, cells := 0, slots := 0, locals := 12 } : Room) s m #[(.ref a1), (.ref a2), (.int (0 : Int32))] below meth c s₁ [] 0 0 := Stand.of_body Bd
  have e0 : s₁.heap = h0 := by rw [← hh, Bd.state]; rfl
  have N0 := Fr.nil n0
  refine own_enter (ef_rmIb m a1 a2 ((0 : Int32))) ?_
  refine own_st (fun t_ k_ => XS.aloadN X0.here hx rfl (hb hby d11_0) rfl rfl k_) ?_
  show own_Go p e below s₁ (mkF m 1 #[.val (.ref a1), .val (.ref a2), .val (.int (0 : Int32))] [(.ref a1)]) _
  obtain ⟨T1, X1, e1, st1⟩ := initO X0 hx hZ hown (hw _ (List.mem_of_getElem? (i := 16) rfl)) (hw _ (List.mem_of_getElem? (i := 17) rfl)) (hw _ (List.mem_of_getElem? (i := 18) rfl)) e0 (g := (mkF m 1 #[.val (.ref a1), .val (.ref a2), .val (.int (0 : Int32))] [(.ref a1)])) rfl (by rw [hml]; rfl) rfl (hb hby d11_1) (by decide) (W := 0) (by show 2 * 0 + _ ≤ _; exact Nat.le_of_eq rfl) (by decide)
  refine own_st st1 ?_
  show own_Go p e below T1 (mkF m 4 #[.val (.ref a1), .val (.ref a2), .val (.int (0 : Int32))] []) _
  refine own_st (fun t_ k_ => XS.aloadN X1.here hx rfl (hb hby d11_4) rfl rfl k_) ?_
  show own_Go p e below T1 (mkF m 5 #[.val (.ref a1), .val (.ref a2), .val (.int (0 : Int32))] [(.ref a1)]) _
  refine own_st (fun t_ k_ => XS.aloadN X1.here hx rfl (hb hby d11_5) rfl rfl k_) ?_
  show own_Go p e below T1 (mkF m 6 #[.val (.ref a1), .val (.ref a2), .val (.int (0 : Int32))] [(.ref a2), (.ref a1)]) _
  obtain ⟨T2, h2, X2, e2, W2, st2⟩ := putF X1 hx hZ hown (host := "") (Or.inl (hw _ (List.mem_of_getElem? (i := 33) rfl))) Via.refl e1 pF_value_a1 pE_a1 (Or.inr ⟨(hw _ (List.mem_of_getElem? (i := 34) rfl)), rfl, hnm⟩) (hw _ (List.mem_of_getElem? (i := 7) rfl)) (ty := (.array .byte)) (by decide) rfl rfl (g := (mkF m 6 #[.val (.ref a1), .val (.ref a2), .val (.int (0 : Int32))] [(.ref a2), (.ref a1)])) rfl rfl (hb hby d11_6)
  have F2 := pF_value_a1.same W2
  have K3 : Keep h0 h2 [a1] := (Keep.refl h0 [a1]).wr W2 (Or.inl (List.mem_of_getElem? (i := 0) rfl))
  have N2 := Fr.snoc X2 N0 pG_a1
  refine own_st st2 ?_
  show own_Go p e below T2 (mkF m 9 #[.val (.ref a1), .val (.ref a2), .val (.int (0 : Int32))] []) _
  refine own_st (fun t_ k_ => XS.aloadN X2.here hx rfl (hb hby d11_9) rfl rfl k_) ?_
  show own_Go p e below T2 (mkF m 10 #[.val (.ref a1), .val (.ref a2), .val (.int (0 : Int32))] [(.ref a1)]) _
  refine own_st (fun t_ k_ => XS.iloadN X2.here hx rfl (hb hby d11_10) rfl k_) ?_
  show own_Go p e below T2 (mkF m 11 #[.val (.ref a1), .val (.ref a2), .val (.int (0 : Int32))] [(.int (0 : Int32)), (.ref a1)]) _
  have f4 := (pE_a1.wr W2)
  have f5 := (pF_coder_a1.other W2 (Or.inr (slot_ne (Or.inr (hw _ (List.mem_of_getElem? (i := 32) rfl))) (Or.inr (hw _ (List.mem_of_getElem? (i := 34) rfl))) (by decide) (t := .byte) (t' := (.array .byte)) (by decide) (by decide))))
  obtain ⟨T6, h6, X6, e6, W6, st6⟩ := putFN X2 hx hZ hown (hw _ (List.mem_of_getElem? (i := 31) rfl)) Via.refl e2 f5 f4 (Or.inr ⟨(hw _ (List.mem_of_getElem? (i := 32) rfl)), rfl, hnm⟩) (hw _ (List.mem_of_getElem? (i := 7) rfl)) (ty := .byte) (v' := (.int (0 : Int32))) (by decide) rfl (by decide) (g := (mkF m 11 #[.val (.ref a1), .val (.ref a2), .val (.int (0 : Int32))] [(.int (0 : Int32)), (.ref a1)])) rfl rfl (hb hby d11_11)
  have F6 := f5.same W6
  have K7 : Keep h0 h6 [a1] := K3.wr W6 (Or.inl (List.mem_of_getElem? (i := 0) rfl))
  have N6 := Fr.snoc X6 N2 pG_a1
  refine own_st st6 ?_
  show own_Go p e below T6 (mkF m 14 #[.val (.ref a1), .val (.ref a2), .val (.int (0 : Int32))] []) _
  have f8 := (f4.wr W6)
  have f9 := (F2.other W6 (Or.inr (slot_ne (Or.inr (hw _ (List.mem_of_getElem? (i := 34) rfl))) (Or.inr (hw _ (List.mem_of_getElem? (i := 32) rfl))) (by decide) (t := (.array .byte)) (t' := .byte) (by decide) (by decide))))
  obtain ⟨fs, hr, hrun, hended, hW, hsame⟩ := X6.leave (v := none) (fun _ => rfl)
  refine own_fin (X6.returnOut hx Bd.returns (hb hby d11_14) hr) ⟨hrun, hended, _, _, rfl, ?_, ⟨_, rfl⟩, hW, hsame.mono (by decide) (by decide)⟩
  show Q_rmIb Z a1 a2 u1 u2 h0 n0 _ T6.heap _
  rw [e6]
  exact ⟨rfl, N6, K7, f8, f9, F6⟩
theorem d8_0 : decode jdk_42_method_139_code 0 = .ok (.getstatic 38, 3) := by decide +kernel
theorem d8_3 : decode jdk_42_method_139_code 3 = .ok (.ifCond .eq 23, 3) := by decide +kernel
theorem d8_6 : decode jdk_42_method_139_code 6 = .ok (.iload_n 0, 1) := by decide +kernel
theorem d8_7 : decode jdk_42_method_139_code 7 = .ok (.invokestatic 1015, 3) := by decide +kernel
theorem d8_10 : decode jdk_42_method_139_code 10 = .ok (.ifCond .eq 16, 3) := by decide +kernel
theorem d8_13 : decode jdk_42_method_139_code 13 = .ok (.new 10, 3) := by decide +kernel
theorem d8_16 : decode jdk_42_method_139_code 16 = .ok (.dup, 1) := by decide +kernel
theorem d8_17 : decode jdk_42_method_139_code 17 = .ok (.iload_n 0, 1) := by decide +kernel
theorem d8_18 : decode jdk_42_method_139_code 18 = .ok (.invokestatic 1018, 3) := by decide +kernel
theorem d8_21 : decode jdk_42_method_139_code 21 = .ok (.iconst 0, 1) := by decide +kernel
theorem d8_22 : decode jdk_42_method_139_code 22 = .ok (.invokespecial 209, 3) := by decide +kernel
theorem d8_25 : decode jdk_42_method_139_code 25 = .ok (.areturn, 1) := by decide +kernel
theorem pn_8 : plainName "java/lang/String" = true := by first | (simp [plainName, overriddenIn]; done) | decide +kernel
theorem pd__C__B : parseMethodDescriptor "(C)[B" = some ⟨[.char], some (.array .byte)⟩ := by decide +kernel
theorem pd___BB_V : parseMethodDescriptor "([BB)V" = some ⟨[(.array .byte), .byte], none⟩ := by decide +kernel
theorem ef_rmVo (m : MethodId) (x0 : Int32) : entryFrame m #[(.int x0)] 1 = mkF m 0 #[.val (.int x0)] [] := by first | (simp [entryFrame, mkF, argsToLocals, Value.category]; done) | rfl
def Q_rmVo (Z : State) (c0 : Int32) (zc : Int32) (h0 : Heap) (n0 : Nat) (v : Option Value) (h : Heap) (L : List Loc) : Prop := ∃ x : Addr, ∃ t : Addr, ∃ kb : ClassId, v = some (.ref x) ∧ Fr n0 L ∧ Keep h0 h [] ∧ Exa Z h x "java/lang/String" ∧ Fld Z h x "java/lang/String" "value" "[B" (.ref t) ∧ Fld Z h x "java/lang/String" "coder" "B" (.int (0 : Int32)) ∧ Arv Z h t kb .byte (1 : Int32) ((([c0] : List Int32).map (fun c => c.toInt8.toInt32)).map Value.int) (.int 0) ∧ h0.size ≤ x ∧ n0 ≤ x ∧ h0.size ≤ t ∧ n0 ≤ t
set_option maxRecDepth 65536 in
set_option maxHeartbeats 40000000 in
theorem rmVo (l : Launch) (Z : State) (a0 : Array Value) (hw : ∀ d ∈ tables_1, d.before a0 Z = true) (ws : List Jvm.Cond) (c0 : Int32) (zc : Int32) (h0 : Heap) (n0 : Nat) (Z0 : n0 ≤ h0.size) (h255 : (¬ ((255 : Int32) < c0))) (pS_COMPACT_STRINGS : Sta Z Z.heap "java/lang/String" "COMPACT_STRINGS" "Z" (.int zc)) (pP5 : (¬ (zc = (0 : Int32)))) (pO : Old Z n0 h0) :
    MetFree l (⟨"java/lang/String", "valueOf", "(C)Ljava/lang/String;"⟩ : MethodName) (head1 (Jvm.Cond.code (⟨"java/lang/String", "valueOf", "(C)Ljava/lang/String;"⟩ : MethodName) jdk_42_method_139_code 1 (some (.object "java/lang/String")) :: ws) ({ frames := 2, cells := 2, slots := 5, locals := 27 } : Room)) (fun a U => a = #[(.int c0)] ∧ Z.Warmed39 U.vm ∧ U.heap = h0) (fun _ _ _ _ _ => True) (fun _ U o U' => ∃ v L, o = .returned v ∧ Q_rmVo Z c0 zc h0 n0 v U'.heap L ∧ FrameEnd U o U' L ({ frames := 2, cells := 2, slots := 5, locals := 27 } : Room).cells ({ frames := 2, cells := 2, slots := 5, locals := 27 } : Room).slots) := by
  refine MetFree.of_bodySF (plainFor_of_name pn_8) hisR ?_
  intro p e s m args below meth c s₁ Bd hml0 hP hK
  obtain ⟨rfl, hZ, hh⟩ := hP
  have hx := Bd.exec
  have hby := Bd.bytes
  have hml : c.maxLocals = 1 := hml0
  have hown : s.vm.findClass "java/lang/String" = some m.cls := findClass_of_methodNamed Bd.named
  have hnm := (name_of_methodNamed Bd.named Bd.method).1
  have X0 : Stand p l e ({ frames := 2, cells := 2, slots := 5, locals := 27 } : Room) s m #[(.int c0)] below meth c s₁ [] 0 0 := Stand.of_body Bd
  have e0 : s₁.heap = h0 := by rw [← hh, Bd.state]; rfl
  have N0 := Fr.nil n0
  refine own_enter (ef_rmVo m c0) ?_
  obtain ⟨T1, X1, e1, st1⟩ := getS2 X0 hx hZ hown (host := "") (Or.inl (hw _ (List.mem_of_getElem? (i := 19) rfl))) Via.refl e0 (pS_COMPACT_STRINGS.ext pO.2) (g := (mkF m 0 #[.val (.int c0)] [])) rfl (hb hby d8_0)
  refine own_st st1 ?_
  show own_Go p e below T1 (mkF m 3 #[.val (.int c0)] [(.int zc)]) _
  refine own_st (fun t_ k_ => XS.ifNo X1.here hx rfl (hb hby d8_3) rfl ((if0 _ _).trans (feq pP5).1) k_) ?_
  show own_Go p e below T1 (mkF m 6 #[.val (.int c0)] []) _
  refine own_st (fun t_ k_ => XS.iloadN X1.here hx rfl (hb hby d8_6) rfl k_) ?_
  show own_Go p e below T1 (mkF m 7 #[.val (.int c0)] [(.int c0)]) _
  obtain ⟨_, _, ⟨T2, L2, k2, n2⟩, -, X2, ⟨Lc2, hQ2, l2, y2, z2⟩, st2⟩ := Jvm.LawKit.callS X1 hx (y := (⟨"java/lang/StringLatin1", "canEncode", "(C)Z"⟩ : MethodName)) hown (mvT hZ (hw _ (List.mem_of_getElem? (i := 38) rfl))) (mvT hZ (hw _ (List.mem_of_getElem? (i := 39) rfl))) (mvT hZ (hw _ (List.mem_of_getElem? (i := 40) rfl))) (mvT hZ (hw _ (List.mem_of_getElem? (i := 41) rfl))) (by decide) (backOf (W := 0) (rmCe l Z a0 hw [] c0 h0 n0 Z0 h255) hZ (hw _ (List.mem_of_getElem? (i := 41) rfl)) (hw _ (List.mem_of_getElem? (i := 40) rfl)) (by decide) (by decide)) (g := (mkF m 7 #[.val (.int c0)] [(.int c0)])) rfl (by rw [hml]; rfl) (argsL := [(.int c0)]) (rest := []) (lenOf pd__C_Z rfl) rfl (by show 2 * 0 + _ ≤ _; exact Nat.le_of_eq rfl) (hb hby d8_7) (fun _ _ => ⟨rfl, e1, (by decide : 0 + 0 ≤ _), (by decide : 0 + 0 ≤ _)⟩)
  dsimp only [Pt.U, Pt.locs, Pt.cells, Pt.slots] at X2 l2 y2 z2 st2 hQ2
  try dsimp only [Nat.reduceAdd] at y2 z2
  rw [l2, y2, z2] at X2
  obtain ⟨rfl, Nq2, eH2⟩ := hQ2
  have N2 := Fr.app N0 Nq2
  refine own_st st2 ?_
  show own_Go p e below T2 (mkF m 10 #[.val (.int c0)] [(.int (1 : Int32))]) _
  refine own_st (fun t_ k_ => XS.ifNo X2.here hx rfl (hb hby d8_10) rfl (by decide) k_) ?_
  show own_Go p e below T2 (mkF m 13 #[.val (.int c0)] []) _
  obtain ⟨T3, h3, X3, e3, E3, A3, D3, -, st3⟩ := newO X2 hx hZ hown (hw _ (List.mem_of_getElem? (i := 42) rfl)) (hw _ (List.mem_of_getElem? (i := 7) rfl)) (hw _ (List.mem_of_getElem? (i := 8) rfl)) eH2 (g := (mkF m 13 #[.val (.int c0)] [])) rfl (hb hby d8_13) (by decide) (by decide)
  obtain ⟨b3, g3⟩ : ∃ z, z = h0.size := ⟨_, rfl⟩
  rw [← g3] at A3 D3 st3
  have G3 : n0 ≤ b3 := Nat.le_trans Z0 (Nat.le_of_eq g3.symm)
  have B3 : h0.size ≤ b3 := Nat.le_trans (Keep.refl h0 []).1 (Nat.le_of_eq g3.symm)
  have K4 : Keep h0 h3 [] := (Keep.refl h0 []).ext E3
  have D3_coder : Fld Z h3 b3 "java/lang/String" "coder" "B" (.int (0 : Int32)) := D3 (Or.inr (hw _ (List.mem_of_getElem? (i := 32) rfl))) (ty := .byte) (by decide)
  have D3_value : Fld Z h3 b3 "java/lang/String" "value" "[B" .null := D3 (Or.inr (hw _ (List.mem_of_getElem? (i := 34) rfl))) (ty := (.array .byte)) (by decide)
  refine own_st st3 ?_
  show own_Go p e below T3 (mkF m 16 #[.val (.int c0)] [(.ref b3)]) _
  refine own_st (fun t_ k_ => XS.dup X3.here hx rfl (hb hby d8_16) rfl rfl k_) ?_
  show own_Go p e below T3 (mkF m 17 #[.val (.int c0)] [(.ref b3), (.ref b3)]) _
  refine own_st (fun t_ k_ => XS.iloadN X3.here hx rfl (hb hby d8_17) rfl k_) ?_
  show own_Go p e below T3 (mkF m 18 #[.val (.int c0)] [(.int c0), (.ref b3), (.ref b3)]) _
  have f5 := (Nat.le_trans Z0 E3.1)
  obtain ⟨_, _, ⟨T6, L6, k6, n6⟩, -, X6, ⟨Lc6, hQ6, l6, y6, z6⟩, st6⟩ := Jvm.LawKit.callS X3 hx (y := (⟨"java/lang/StringLatin1", "toBytes", "(C)[B"⟩ : MethodName)) hown (mvT hZ (hw _ (List.mem_of_getElem? (i := 43) rfl))) (mvT hZ (hw _ (List.mem_of_getElem? (i := 44) rfl))) (mvT hZ (hw _ (List.mem_of_getElem? (i := 40) rfl))) (mvT hZ (hw _ (List.mem_of_getElem? (i := 45) rfl))) (by decide) (backOf (W := 2) (rmTb l Z a0 hw [] c0 h3 n0 f5 ) hZ (hw _ (List.mem_of_getElem? (i := 45) rfl)) (hw _ (List.mem_of_getElem? (i := 40) rfl)) (by decide) (by decide)) (g := (mkF m 18 #[.val (.int c0)] [(.int c0), (.ref b3), (.ref b3)])) rfl (by rw [hml]; rfl) (argsL := [(.int c0)]) (rest := [(.ref b3), (.ref b3)]) (lenOf pd__C__B rfl) rfl (by show 2 * 0 + _ ≤ _; exact Nat.le_of_eq rfl) (hb hby d8_18) (fun _ _ => ⟨rfl, e3, (by decide : 1 + 1 ≤ _), (by decide : 4 + 1 ≤ _)⟩)
  dsimp only [Pt.U, Pt.locs, Pt.cells, Pt.slots] at X6 l6 y6 z6 st6 hQ6
  try dsimp only [Nat.reduceAdd] at y6 z6
  rw [l6, y6, z6] at X6
  obtain ⟨t_6, kb_6, rfl, Nq6, Kq6, q6_0, q6_1, q6_2⟩ := hQ6
  have N6 := Fr.app N2 Nq6
  have K7 : Keep h0 T6.heap [] := K4.trans Kq6 all0
  have Bf8 : h0.size ≤ t_6 := Nat.le_trans K4.1 q6_1
  refine own_st st6 ?_
  show own_Go p e below T6 (mkF m 21 #[.val (.int c0)] [(.ref t_6), (.ref b3), (.ref b3)]) _
  refine own_st (fun t_ k_ => XS.iconst X6.here hx rfl (hb hby d8_21) k_) ?_
  show own_Go p e below T6 (mkF m 22 #[.val (.int c0)] [(.int (0 : Int32)), (.ref t_6), (.ref b3), (.ref b3)]) _
  have f9 := (Nat.le_trans f5 Kq6.1)
  have f10 := (A3.keep Kq6)
  have f11 := (D3_value.keep Kq6 nin0)
  have f12 := (D3_coder.keep Kq6 nin0)
  obtain ⟨_, _, ⟨T13, L13, k13, n13⟩, -, X13, ⟨Lc13, hQ13, l13, y13, z13⟩, st13⟩ := X6.specialBack hx (y := (⟨"java/lang/String", "<init>", "([BB)V"⟩ : MethodName)) rfl hown (mvT hZ (hw _ (List.mem_of_getElem? (i := 46) rfl))) (mvT hZ (hw _ (List.mem_of_getElem? (i := 47) rfl))) (mvT hZ (hw _ (List.mem_of_getElem? (i := 48) rfl))) (by decide) (backOf (W := 1) (rmIb l Z a0 hw [] b3 t_6 .null ((.int (0 : Int32))) T6.heap n0 f9 f10 f11 f12 G3) hZ (hw _ (List.mem_of_getElem? (i := 48) rfl)) (hw _ (List.mem_of_getElem? (i := 8) rfl)) (by decide) (by decide)) (g := (mkF m 22 #[.val (.int c0)] [(.int (0 : Int32)), (.ref t_6), (.ref b3), (.ref b3)])) rfl (by rw [hml]; rfl) (Steps.refl _) (a := b3) (argsL := [(.ref t_6), (.int (0 : Int32))]) (rest := [(.ref b3)]) (lenOf pd___BB_V rfl) rfl (by show 2 * 0 + _ ≤ _; exact Nat.le_of_eq rfl) (hb hby d8_22) (fun _ _ => ⟨rfl, rfl, (by decide : 2 + 0 ≤ _), (by decide : 5 + 0 ≤ _)⟩)
  dsimp only [Pt.U, Pt.locs, Pt.cells, Pt.slots] at X13 l13 y13 z13 st13 hQ13
  try dsimp only [Nat.reduceAdd] at y13 z13
  rw [l13, y13, z13] at X13
  obtain ⟨rfl, Nq13, Kq13, q13_0, q13_1, q13_2⟩ := hQ13
  have N13 := Fr.app N6 Nq13
  have K14 : Keep h0 T13.heap [] := K7.trans Kq13 (allS (Or.inr B3) all0)
  refine own_tr st13 ?_
  show own_Go p e below T13 (mkF m 25 #[.val (.int c0)] [(.ref b3)]) _
  have f15 := (q6_0.keep Kq13 (ninS (Ne.symm (Nat.ne_of_lt (Nat.lt_of_lt_of_le A3.lt q6_1))) nin0))
  obtain ⟨fs, hr, hrun, hended, hW, hsame⟩ := X13.leave (v := some (.ref b3)) (fun h => by rw [Bd.returns] at h; cases h)
  refine own_fin (own_retR X13 hx rfl Bd.returns rfl (hb hby d8_25) hr) ⟨hrun, hended, _, _, rfl, ?_, ⟨_, rfl⟩, hW, hsame.mono (by decide) (by decide)⟩
  show Q_rmVo Z c0 zc h0 n0 _ T13.heap _
  exact ⟨b3, t_6, kb_6, rfl, N13, K14, q13_0, q13_1, q13_2, f15, B3, G3, Bf8, q6_2⟩
theorem pn_0 : plainName "com/example/faithful_courier/faithfulcourier/core/NameOfPinLaw" = true := by first | (simp [plainName, overriddenIn]; done) | decide +kernel
theorem pd___C_V : parseMethodDescriptor "([C)V" = some ⟨[(.array .char)], none⟩ := by decide +kernel
theorem pd__C_Ljava_lang_String_ : parseMethodDescriptor "(C)Ljava/lang/String;" = some ⟨[.char], some (.object "java/lang/String")⟩ := by decide +kernel
theorem pd__Ljava_lang_String__Lcom_example_faithful_courier_faithfulcourier_core_Name_ : parseMethodDescriptor "(Ljava/lang/String;)Lcom/example/faithful_courier/faithfulcourier/core/Name;" = some ⟨[(.object "java/lang/String")], some (.object "com/example/faithful_courier/faithfulcourier/core/Name")⟩ := by decide +kernel
theorem pd___Ljava_lang_String_ : parseMethodDescriptor "()Ljava/lang/String;" = some ⟨[], some (.object "java/lang/String")⟩ := by decide +kernel
theorem ef_rmLaw1 (m : MethodId) (x0 : Int32) (x1 : Int32) (x2 : Int32) (x3 : Int32) (x4 : Int32) (x5 : Int32) : entryFrame m #[(.int x0), (.int x1), (.int x2), (.int x3), (.int x4), (.int x5)] maxLocals = mkF m 0 #[.val (.int x0), .val (.int x1), .val (.int x2), .val (.int x3), .val (.int x4), .val (.int x5), .unset, .unset, .unset, .unset, .unset, .unset, .unset, .unset, .unset, .unset, .unset, .unset, .unset, .unset] [] := by first | (simp [entryFrame, mkF, argsToLocals, Value.category, maxLocals]; done) | rfl
def Q_rmLaw1 (Z : State) (p0 : Int32) (p1 : Int32) (p2 : Int32) (p3 : Int32) (p4 : Int32) (p5 : Int32) (zc : Int32) (fm : Value) (h0 : Heap) (n0 : Nat) (v : Option Value) (h : Heap) (L : List Loc) : Prop := v = some (.int (1 : Int32)) ∧ Fr n0 L ∧ Keep h0 h []
set_option maxRecDepth 65536 in
set_option maxHeartbeats 40000000 in
theorem rmLaw1 (l : Launch) (Z : State) (a0 : Array Value) (hw : ∀ d ∈ tables_1, d.before a0 Z = true) (ws : List Jvm.Cond) (p0 : Int32) (p1 : Int32) (p2 : Int32) (p3 : Int32) (p4 : Int32) (p5 : Int32) (zc : Int32) (fm : Value) (h0 : Heap) (n0 : Nat) (Z0 : n0 ≤ h0.size) (pS_COMPACT_STRINGS : Sta Z Z.heap "java/lang/String" "COMPACT_STRINGS" "Z" (.int zc)) (pP5 : (¬ (zc = (0 : Int32)))) (pS_SIOOBE_FORMATTER : Sta Z Z.heap "jdk/internal/util/Preconditions" "SIOOBE_FORMATTER" "Ljava/util/function/BiFunction;" fm) (rfm : (fm.isRef = true)) (pO : Old Z n0 h0) (hn : ((1 : Int32) + (p4 &&& (3 : Int32)) = (1 : Int32))) :
    MetFree l x (head1 (Jvm.Cond.code x code maxLocals ret :: ws) room_1) (fun a U => a = #[(.int p0), (.int p1), (.int p2), (.int p3), (.int p4), (.int p5)] ∧ Z.Warmed39 U.vm ∧ U.heap = h0 ∧ CHv Z own_EL U.vm h0) (fun _ _ _ _ _ => True) (fun _ U o U' => ∃ v L, o = .returned v ∧ Q_rmLaw1 Z p0 p1 p2 p3 p4 p5 zc fm h0 n0 v U'.heap L ∧ CHr Z own_EL U.vm U.heap U'.vm U'.heap ∧ ReturnedEndW U o U' L 32 1152) := by
  refine MetFree.of_bodySF (plainFor_of_name pn_0) hisR ?_
  intro p e s m args below meth c s₁ Bd hml0 hP hK
  obtain ⟨rfl, hZ, hh, hCH⟩ := hP
  have hx := Bd.exec
  have hby := Bd.bytes
  have hml : c.maxLocals = 20 := hml0
  have hown : s.vm.findClass "com/example/faithful_courier/faithfulcourier/core/NameOfPinLaw" = some m.cls := findClass_of_methodNamed Bd.named
  have hnm := (name_of_methodNamed Bd.named Bd.method).1
  have X0 : Stand p l e room_1 (s.setVm s.vm) m #[(.int p0), (.int p1), (.int p2), (.int p3), (.int p4), (.int p5)] below meth c s₁ [] 0 0 := Stand.of_body Bd
  have e0 : s₁.heap = h0 := by rw [← hh, Bd.state]; rfl
  have N0 := Fr.nil n0
  have hEL := own_EW hw
  have hCR := CHr.refl hCH
  have hS : s.Since s.vm h0.size := (State.WarmedH.refl s).since _
  have hK0 : h0.size ≤ h0.size := Nat.le_refl _
  refine own_enter (ef_rmLaw1 m p0 p1 p2 p3 p4 p5) ?_
  have hws : ∀ d ∈ StrChars.Road.words, d.before a0 Z = true := fun d hd => hw d ((by decide +kernel : ∀ d ∈ StrChars.Road.words, d ∈ tables_1) d hd)
  have heq : ∀ d ∈ StrChars.Road.wordsEq, d.before a0 Z = true := fun d hd => hw d ((by decide +kernel : ∀ d ∈ StrChars.Road.wordsEq, d ∈ tables_1) d hd)
  refine own_st (fun t_ k_ => XS.iloadN X0.here hx rfl (hb hby at_0) rfl k_) ?_
  show own_Go p e below s₁ (mkF m 1 #[.val (.int p0), .val (.int p1), .val (.int p2), .val (.int p3), .val (.int p4), .val (.int p5), .unset, .unset, .unset, .unset, .unset, .unset, .unset, .unset, .unset, .unset, .unset, .unset, .unset, .unset] [(.int p0)]) _
  obtain ⟨_, _, ⟨T1, L1, k1, n1⟩, -, X1, ⟨Lc1, hQ1, l1, y1, z1⟩, st1⟩ := Jvm.LawKit.callS X0 hx (y := (⟨"com/example/faithful_courier/faithfulcourier/core/NameOfPinLaw", "allowed", "(I)C"⟩ : MethodName)) hown (mvT hZ (hw _ (List.mem_of_getElem? (i := 0) rfl))) (mvT hZ (hw _ (List.mem_of_getElem? (i := 1) rfl))) (mvT hZ (hw _ (List.mem_of_getElem? (i := 2) rfl))) (mvT hZ (hw _ (List.mem_of_getElem? (i := 3) rfl))) (by decide) (backOf (W := 0) (rmAl l Z a0 hw [] p0 h0 n0 Z0 ) hZ (hw _ (List.mem_of_getElem? (i := 3) rfl)) (hw _ (List.mem_of_getElem? (i := 2) rfl)) (by decide) (by decide)) (g := (mkF m 1 #[.val (.int p0), .val (.int p1), .val (.int p2), .val (.int p3), .val (.int p4), .val (.int p5), .unset, .unset, .unset, .unset, .unset, .unset, .unset, .unset, .unset, .unset, .unset, .unset, .unset, .unset] [(.int p0)])) rfl (by rw [hml]; rfl) (argsL := [(.int p0)]) (rest := []) (lenOf pd__I_C rfl) rfl (by show 2 * 0 + _ ≤ _; exact Nat.le_of_eq rfl) (hb hby at_1) (fun _ _ => ⟨rfl, e0, (by decide : 0 + 0 ≤ _), (by decide : 0 + 0 ≤ _)⟩)
  dsimp only [Pt.U, Pt.locs, Pt.cells, Pt.slots] at X1 l1 y1 z1 st1 hQ1
  try dsimp only [Nat.reduceAdd] at y1 z1
  rw [l1, y1, z1] at X1
  obtain ⟨r_1, rfl, Nq1, eH1, q1_0⟩ := hQ1
  have N1 := Fr.app N0 Nq1
  refine own_st st1 ?_
  show own_Go p e below T1 (mkF m 4 #[.val (.int p0), .val (.int p1), .val (.int p2), .val (.int p3), .val (.int p4), .val (.int p5), .unset, .unset, .unset, .unset, .unset, .unset, .unset, .unset, .unset, .unset, .unset, .unset, .unset, .unset] [(.int r_1)]) _
  refine own_st (fun t_ k_ => XS.istore X1.here hx rfl (hb hby at_4) rfl (l' := #[.val (.int p0), .val (.int p1), .val (.int p2), .val (.int p3), .val (.int p4), .val (.int p5), .val (.int r_1), .unset, .unset, .unset, .unset, .unset, .unset, .unset, .unset, .unset, .unset, .unset, .unset, .unset]) rfl k_) ?_
  show own_Go p e below T1 (mkF m 6 #[.val (.int p0), .val (.int p1), .val (.int p2), .val (.int p3), .val (.int p4), .val (.int p5), .val (.int r_1), .unset, .unset, .unset, .unset, .unset, .unset, .unset, .unset, .unset, .unset, .unset, .unset, .unset] []) _
  refine own_st (fun t_ k_ => XS.iloadN X1.here hx rfl (hb hby at_6) rfl k_) ?_
  show own_Go p e below T1 (mkF m 7 #[.val (.int p0), .val (.int p1), .val (.int p2), .val (.int p3), .val (.int p4), .val (.int p5), .val (.int r_1), .unset, .unset, .unset, .unset, .unset, .unset, .unset, .unset, .unset, .unset, .unset, .unset, .unset] [(.int p1)]) _
  obtain ⟨_, _, ⟨T2, L2, k2, n2⟩, -, X2, ⟨Lc2, hQ2, l2, y2, z2⟩, st2⟩ := Jvm.LawKit.callS X1 hx (y := (⟨"com/example/faithful_courier/faithfulcourier/core/NameOfPinLaw", "allowed", "(I)C"⟩ : MethodName)) hown (mvT hZ (hw _ (List.mem_of_getElem? (i := 0) rfl))) (mvT hZ (hw _ (List.mem_of_getElem? (i := 1) rfl))) (mvT hZ (hw _ (List.mem_of_getElem? (i := 2) rfl))) (mvT hZ (hw _ (List.mem_of_getElem? (i := 3) rfl))) (by decide) (backOf (W := 0) (rmAl l Z a0 hw [] p1 h0 n0 Z0 ) hZ (hw _ (List.mem_of_getElem? (i := 3) rfl)) (hw _ (List.mem_of_getElem? (i := 2) rfl)) (by decide) (by decide)) (g := (mkF m 7 #[.val (.int p0), .val (.int p1), .val (.int p2), .val (.int p3), .val (.int p4), .val (.int p5), .val (.int r_1), .unset, .unset, .unset, .unset, .unset, .unset, .unset, .unset, .unset, .unset, .unset, .unset, .unset] [(.int p1)])) rfl (by rw [hml]; rfl) (argsL := [(.int p1)]) (rest := []) (lenOf pd__I_C rfl) rfl (by show 2 * 0 + _ ≤ _; exact Nat.le_of_eq rfl) (hb hby at_7) (fun _ _ => ⟨rfl, eH1, (by decide : 0 + 0 ≤ _), (by decide : 0 + 0 ≤ _)⟩)
  dsimp only [Pt.U, Pt.locs, Pt.cells, Pt.slots] at X2 l2 y2 z2 st2 hQ2
  try dsimp only [Nat.reduceAdd] at y2 z2
  rw [l2, y2, z2] at X2
  obtain ⟨r_2, rfl, Nq2, eH2, q2_0⟩ := hQ2
  have N2 := Fr.app N1 Nq2
  refine own_st st2 ?_
  show own_Go p e below T2 (mkF m 10 #[.val (.int p0), .val (.int p1), .val (.int p2), .val (.int p3), .val (.int p4), .val (.int p5), .val (.int r_1), .unset, .unset, .unset, .unset, .unset, .unset, .unset, .unset, .unset, .unset, .unset, .unset, .unset] [(.int r_2)]) _
  refine own_st (fun t_ k_ => XS.istore X2.here hx rfl (hb hby at_10) rfl (l' := #[.val (.int p0), .val (.int p1), .val (.int p2), .val (.int p3), .val (.int p4), .val (.int p5), .val (.int r_1), .val (.int r_2), .unset, .unset, .unset, .unset, .unset, .unset, .unset, .unset, .unset, .unset, .unset, .unset]) rfl k_) ?_
  show own_Go p e below T2 (mkF m 12 #[.val (.int p0), .val (.int p1), .val (.int p2), .val (.int p3), .val (.int p4), .val (.int p5), .val (.int r_1), .val (.int r_2), .unset, .unset, .unset, .unset, .unset, .unset, .unset, .unset, .unset, .unset, .unset, .unset] []) _
  refine own_st (fun t_ k_ => XS.iloadN X2.here hx rfl (hb hby at_12) rfl k_) ?_
  show own_Go p e below T2 (mkF m 13 #[.val (.int p0), .val (.int p1), .val (.int p2), .val (.int p3), .val (.int p4), .val (.int p5), .val (.int r_1), .val (.int r_2), .unset, .unset, .unset, .unset, .unset, .unset, .unset, .unset, .unset, .unset, .unset, .unset] [(.int p2)]) _
  obtain ⟨_, _, ⟨T3, L3, k3, n3⟩, -, X3, ⟨Lc3, hQ3, l3, y3, z3⟩, st3⟩ := Jvm.LawKit.callS X2 hx (y := (⟨"com/example/faithful_courier/faithfulcourier/core/NameOfPinLaw", "allowed", "(I)C"⟩ : MethodName)) hown (mvT hZ (hw _ (List.mem_of_getElem? (i := 0) rfl))) (mvT hZ (hw _ (List.mem_of_getElem? (i := 1) rfl))) (mvT hZ (hw _ (List.mem_of_getElem? (i := 2) rfl))) (mvT hZ (hw _ (List.mem_of_getElem? (i := 3) rfl))) (by decide) (backOf (W := 0) (rmAl l Z a0 hw [] p2 h0 n0 Z0 ) hZ (hw _ (List.mem_of_getElem? (i := 3) rfl)) (hw _ (List.mem_of_getElem? (i := 2) rfl)) (by decide) (by decide)) (g := (mkF m 13 #[.val (.int p0), .val (.int p1), .val (.int p2), .val (.int p3), .val (.int p4), .val (.int p5), .val (.int r_1), .val (.int r_2), .unset, .unset, .unset, .unset, .unset, .unset, .unset, .unset, .unset, .unset, .unset, .unset] [(.int p2)])) rfl (by rw [hml]; rfl) (argsL := [(.int p2)]) (rest := []) (lenOf pd__I_C rfl) rfl (by show 2 * 0 + _ ≤ _; exact Nat.le_of_eq rfl) (hb hby at_13) (fun _ _ => ⟨rfl, eH2, (by decide : 0 + 0 ≤ _), (by decide : 0 + 0 ≤ _)⟩)
  dsimp only [Pt.U, Pt.locs, Pt.cells, Pt.slots] at X3 l3 y3 z3 st3 hQ3
  try dsimp only [Nat.reduceAdd] at y3 z3
  rw [l3, y3, z3] at X3
  obtain ⟨r_3, rfl, Nq3, eH3, q3_0⟩ := hQ3
  have N3 := Fr.app N2 Nq3
  refine own_st st3 ?_
  show own_Go p e below T3 (mkF m 16 #[.val (.int p0), .val (.int p1), .val (.int p2), .val (.int p3), .val (.int p4), .val (.int p5), .val (.int r_1), .val (.int r_2), .unset, .unset, .unset, .unset, .unset, .unset, .unset, .unset, .unset, .unset, .unset, .unset] [(.int r_3)]) _
  refine own_st (fun t_ k_ => XS.istore X3.here hx rfl (hb hby at_16) rfl (l' := #[.val (.int p0), .val (.int p1), .val (.int p2), .val (.int p3), .val (.int p4), .val (.int p5), .val (.int r_1), .val (.int r_2), .val (.int r_3), .unset, .unset, .unset, .unset, .unset, .unset, .unset, .unset, .unset, .unset, .unset]) rfl k_) ?_
  show own_Go p e below T3 (mkF m 18 #[.val (.int p0), .val (.int p1), .val (.int p2), .val (.int p3), .val (.int p4), .val (.int p5), .val (.int r_1), .val (.int r_2), .val (.int r_3), .unset, .unset, .unset, .unset, .unset, .unset, .unset, .unset, .unset, .unset, .unset] []) _
  refine own_st (fun t_ k_ => XS.iloadN X3.here hx rfl (hb hby at_18) rfl k_) ?_
  show own_Go p e below T3 (mkF m 19 #[.val (.int p0), .val (.int p1), .val (.int p2), .val (.int p3), .val (.int p4), .val (.int p5), .val (.int r_1), .val (.int r_2), .val (.int r_3), .unset, .unset, .unset, .unset, .unset, .unset, .unset, .unset, .unset, .unset, .unset] [(.int p3)]) _
  obtain ⟨_, _, ⟨T4, L4, k4, n4⟩, -, X4, ⟨Lc4, hQ4, l4, y4, z4⟩, st4⟩ := Jvm.LawKit.callS X3 hx (y := (⟨"com/example/faithful_courier/faithfulcourier/core/NameOfPinLaw", "allowed", "(I)C"⟩ : MethodName)) hown (mvT hZ (hw _ (List.mem_of_getElem? (i := 0) rfl))) (mvT hZ (hw _ (List.mem_of_getElem? (i := 1) rfl))) (mvT hZ (hw _ (List.mem_of_getElem? (i := 2) rfl))) (mvT hZ (hw _ (List.mem_of_getElem? (i := 3) rfl))) (by decide) (backOf (W := 0) (rmAl l Z a0 hw [] p3 h0 n0 Z0 ) hZ (hw _ (List.mem_of_getElem? (i := 3) rfl)) (hw _ (List.mem_of_getElem? (i := 2) rfl)) (by decide) (by decide)) (g := (mkF m 19 #[.val (.int p0), .val (.int p1), .val (.int p2), .val (.int p3), .val (.int p4), .val (.int p5), .val (.int r_1), .val (.int r_2), .val (.int r_3), .unset, .unset, .unset, .unset, .unset, .unset, .unset, .unset, .unset, .unset, .unset] [(.int p3)])) rfl (by rw [hml]; rfl) (argsL := [(.int p3)]) (rest := []) (lenOf pd__I_C rfl) rfl (by show 2 * 0 + _ ≤ _; exact Nat.le_of_eq rfl) (hb hby at_19) (fun _ _ => ⟨rfl, eH3, (by decide : 0 + 0 ≤ _), (by decide : 0 + 0 ≤ _)⟩)
  dsimp only [Pt.U, Pt.locs, Pt.cells, Pt.slots] at X4 l4 y4 z4 st4 hQ4
  try dsimp only [Nat.reduceAdd] at y4 z4
  rw [l4, y4, z4] at X4
  obtain ⟨r_4, rfl, Nq4, eH4, q4_0⟩ := hQ4
  have N4 := Fr.app N3 Nq4
  refine own_st st4 ?_
  show own_Go p e below T4 (mkF m 22 #[.val (.int p0), .val (.int p1), .val (.int p2), .val (.int p3), .val (.int p4), .val (.int p5), .val (.int r_1), .val (.int r_2), .val (.int r_3), .unset, .unset, .unset, .unset, .unset, .unset, .unset, .unset, .unset, .unset, .unset] [(.int r_4)]) _
  refine own_st (fun t_ k_ => XS.istore X4.here hx rfl (hb hby at_22) rfl (l' := #[.val (.int p0), .val (.int p1), .val (.int p2), .val (.int p3), .val (.int p4), .val (.int p5), .val (.int r_1), .val (.int r_2), .val (.int r_3), .val (.int r_4), .unset, .unset, .unset, .unset, .unset, .unset, .unset, .unset, .unset, .unset]) rfl k_) ?_
  show own_Go p e below T4 (mkF m 24 #[.val (.int p0), .val (.int p1), .val (.int p2), .val (.int p3), .val (.int p4), .val (.int p5), .val (.int r_1), .val (.int r_2), .val (.int r_3), .val (.int r_4), .unset, .unset, .unset, .unset, .unset, .unset, .unset, .unset, .unset, .unset] []) _
  refine own_st (fun t_ k_ => XS.iconst X4.here hx rfl (hb hby at_24) k_) ?_
  show own_Go p e below T4 (mkF m 25 #[.val (.int p0), .val (.int p1), .val (.int p2), .val (.int p3), .val (.int p4), .val (.int p5), .val (.int r_1), .val (.int r_2), .val (.int r_3), .val (.int r_4), .unset, .unset, .unset, .unset, .unset, .unset, .unset, .unset, .unset, .unset] [(.int (1 : Int32))]) _
  refine own_st (fun t_ k_ => XS.iload X4.here hx rfl (hb hby at_25) rfl k_) ?_
  show own_Go p e below T4 (mkF m 27 #[.val (.int p0), .val (.int p1), .val (.int p2), .val (.int p3), .val (.int p4), .val (.int p5), .val (.int r_1), .val (.int r_2), .val (.int r_3), .val (.int r_4), .unset, .unset, .unset, .unset, .unset, .unset, .unset, .unset, .unset, .unset] [(.int p4), (.int (1 : Int32))]) _
  refine own_st (fun t_ k_ => XS.iconst X4.here hx rfl (hb hby at_27) k_) ?_
  show own_Go p e below T4 (mkF m 28 #[.val (.int p0), .val (.int p1), .val (.int p2), .val (.int p3), .val (.int p4), .val (.int p5), .val (.int r_1), .val (.int r_2), .val (.int r_3), .val (.int r_4), .unset, .unset, .unset, .unset, .unset, .unset, .unset, .unset, .unset, .unset] [(.int (3 : Int32)), (.int p4), (.int (1 : Int32))]) _
  refine own_st (fun t_ k_ => XS.iand X4.here hx rfl (hb hby at_28) rfl k_) ?_
  show own_Go p e below T4 (mkF m 29 #[.val (.int p0), .val (.int p1), .val (.int p2), .val (.int p3), .val (.int p4), .val (.int p5), .val (.int r_1), .val (.int r_2), .val (.int r_3), .val (.int r_4), .unset, .unset, .unset, .unset, .unset, .unset, .unset, .unset, .unset, .unset] [(.int (p4 &&& (3 : Int32))), (.int (1 : Int32))]) _
  refine own_st (fun t_ k_ => XS.iadd X4.here hx rfl (hb hby at_29) rfl k_) ?_
  show own_Go p e below T4 (mkF m 30 #[.val (.int p0), .val (.int p1), .val (.int p2), .val (.int p3), .val (.int p4), .val (.int p5), .val (.int r_1), .val (.int r_2), .val (.int r_3), .val (.int r_4), .unset, .unset, .unset, .unset, .unset, .unset, .unset, .unset, .unset, .unset] [(.int ((1 : Int32) + (p4 &&& (3 : Int32))))]) _
  rw [hn]
  show own_Go p e below T4 (mkF m 30 #[.val (.int p0), .val (.int p1), .val (.int p2), .val (.int p3), .val (.int p4), .val (.int p5), .val (.int r_1), .val (.int r_2), .val (.int r_3), .val (.int r_4), .unset, .unset, .unset, .unset, .unset, .unset, .unset, .unset, .unset, .unset] [(.int (1 : Int32))]) _
  refine own_st (fun t_ k_ => XS.istore X4.here hx rfl (hb hby at_30) rfl (l' := #[.val (.int p0), .val (.int p1), .val (.int p2), .val (.int p3), .val (.int p4), .val (.int p5), .val (.int r_1), .val (.int r_2), .val (.int r_3), .val (.int r_4), .val (.int (1 : Int32)), .unset, .unset, .unset, .unset, .unset, .unset, .unset, .unset, .unset]) rfl k_) ?_
  show own_Go p e below T4 (mkF m 32 #[.val (.int p0), .val (.int p1), .val (.int p2), .val (.int p3), .val (.int p4), .val (.int p5), .val (.int r_1), .val (.int r_2), .val (.int r_3), .val (.int r_4), .val (.int (1 : Int32)), .unset, .unset, .unset, .unset, .unset, .unset, .unset, .unset, .unset] []) _
  refine own_st (fun t_ k_ => XS.iconst X4.here hx rfl (hb hby at_32) k_) ?_
  show own_Go p e below T4 (mkF m 33 #[.val (.int p0), .val (.int p1), .val (.int p2), .val (.int p3), .val (.int p4), .val (.int p5), .val (.int r_1), .val (.int r_2), .val (.int r_3), .val (.int r_4), .val (.int (1 : Int32)), .unset, .unset, .unset, .unset, .unset, .unset, .unset, .unset, .unset] [(.int (1 : Int32))]) _
  obtain ⟨T5, h5, k5, X5, e5, E5, A5, st5⟩ := newP X4 hx hZ (hw _ (List.mem_of_getElem? (i := 5) rfl)) eH4 (g := (mkF m 33 #[.val (.int p0), .val (.int p1), .val (.int p2), .val (.int p3), .val (.int p4), .val (.int p5), .val (.int r_1), .val (.int r_2), .val (.int r_3), .val (.int r_4), .val (.int (1 : Int32)), .unset, .unset, .unset, .unset, .unset, .unset, .unset, .unset, .unset] [(.int (1 : Int32))])) rfl (hb hby at_33) rfl (by decide) (cap := 1) (by decide) (by decide) (by decide) (by decide)
  obtain ⟨b5, g5⟩ : ∃ z, z = h0.size := ⟨_, rfl⟩
  rw [← g5] at A5 st5
  have G5 : n0 ≤ b5 := Nat.le_trans Z0 (Nat.le_of_eq g5.symm)
  have B5 : h0.size ≤ b5 := Nat.le_trans (Keep.refl h0 []).1 (Nat.le_of_eq g5.symm)
  have CH6 := hCH.ext E5
  have CR6 := CHr.trans hCR (CHr.ext E5 hCH)
  have K7 : Keep h0 h5 [] := (Keep.refl h0 []).ext E5
  have V5 : Arv Z h5 b5 k5 .char (1 : Int32) [(.int (0 : Int32))] (.int (0 : Int32)) := (Arv.new A5 (by decide)).pad (pad_rep [] (.int (0 : Int32)) 1)
  refine own_st st5 ?_
  show own_Go p e below T5 (mkF m 35 #[.val (.int p0), .val (.int p1), .val (.int p2), .val (.int p3), .val (.int p4), .val (.int p5), .val (.int r_1), .val (.int r_2), .val (.int r_3), .val (.int r_4), .val (.int (1 : Int32)), .unset, .unset, .unset, .unset, .unset, .unset, .unset, .unset, .unset] [(.ref b5)]) _
  refine own_st (fun t_ k_ => XS.dup X5.here hx rfl (hb hby at_35) rfl rfl k_) ?_
  show own_Go p e below T5 (mkF m 36 #[.val (.int p0), .val (.int p1), .val (.int p2), .val (.int p3), .val (.int p4), .val (.int p5), .val (.int r_1), .val (.int r_2), .val (.int r_3), .val (.int r_4), .val (.int (1 : Int32)), .unset, .unset, .unset, .unset, .unset, .unset, .unset, .unset, .unset] [(.ref b5), (.ref b5)]) _
  refine own_st (fun t_ k_ => XS.iconst X5.here hx rfl (hb hby at_36) k_) ?_
  show own_Go p e below T5 (mkF m 37 #[.val (.int p0), .val (.int p1), .val (.int p2), .val (.int p3), .val (.int p4), .val (.int p5), .val (.int r_1), .val (.int r_2), .val (.int r_3), .val (.int r_4), .val (.int (1 : Int32)), .unset, .unset, .unset, .unset, .unset, .unset, .unset, .unset, .unset] [(.int (0 : Int32)), (.ref b5), (.ref b5)]) _
  refine own_st (fun t_ k_ => XS.iload X5.here hx rfl (hb hby at_37) rfl k_) ?_
  show own_Go p e below T5 (mkF m 39 #[.val (.int p0), .val (.int p1), .val (.int p2), .val (.int p3), .val (.int p4), .val (.int p5), .val (.int r_1), .val (.int r_2), .val (.int r_3), .val (.int r_4), .val (.int (1 : Int32)), .unset, .unset, .unset, .unset, .unset, .unset, .unset, .unset, .unset] [(.int r_1), (.int (0 : Int32)), (.ref b5), (.ref b5)]) _
  obtain ⟨cl8, Ar8, q8, Sz8, Nn8, Hh8, Gg8⟩ := id V5
  have hin8 : ¬ ((0 : Int32) < 0 ∨ cl8.slots.size ≤ ((0 : Int32)).toNatClampNeg) := inb_of Sz8 ⟨by decide, by decide⟩
  obtain ⟨T9, h9, X9, e9, W9, st9⟩ := stC X5 hx hZ e5 Ar8 (j := (0 : Int32)) hin8 (g := (mkF m 39 #[.val (.int p0), .val (.int p1), .val (.int p2), .val (.int p3), .val (.int p4), .val (.int p5), .val (.int r_1), .val (.int r_2), .val (.int r_3), .val (.int r_4), .val (.int (1 : Int32)), .unset, .unset, .unset, .unset, .unset, .unset, .unset, .unset, .unset] [(.int r_1), (.int (0 : Int32)), (.ref b5), (.ref b5)])) rfl rfl (hb hby at_39)
  have V9 : Arv Z h9 b5 k5 .char (1 : Int32) [(.int (nar .char r_1))] (.int (0 : Int32)) := Arv.set Ar8 q8 Sz8 Nn8 Hh8 Gg8 (fits_nar_char _) W9 0 rfl (Nat.le_of_ble_eq_true rfl)
  rw [own_alnar q1_0] at V9
  have Sa10 : Safe Z own_EL s.vm h5 b5 := (Safe.arv hZ.alike V5 (by decide))
  have CH10 := CH6.wr W9 Sa10
  have CR10 := CHr.trans CR6 (CHr.wr W9 Sa10 CH6)
  have K11 : Keep h0 h9 [] := K7.wr W9 (Or.inr B5)
  have N9 := Fr.snoc X9 N4 G5
  refine own_st st9 ?_
  show own_Go p e below T9 (mkF m 40 #[.val (.int p0), .val (.int p1), .val (.int p2), .val (.int p3), .val (.int p4), .val (.int p5), .val (.int r_1), .val (.int r_2), .val (.int r_3), .val (.int r_4), .val (.int (1 : Int32)), .unset, .unset, .unset, .unset, .unset, .unset, .unset, .unset, .unset] [(.ref b5)]) _
  refine own_st (fun t_ k_ => XS.astore X9.here hx rfl (hb hby at_40) rfl rfl (l' := #[.val (.int p0), .val (.int p1), .val (.int p2), .val (.int p3), .val (.int p4), .val (.int p5), .val (.int r_1), .val (.int r_2), .val (.int r_3), .val (.int r_4), .val (.int (1 : Int32)), .val (.ref b5), .unset, .unset, .unset, .unset, .unset, .unset, .unset, .unset]) rfl k_) ?_
  show own_Go p e below T9 (mkF m 42 #[.val (.int p0), .val (.int p1), .val (.int p2), .val (.int p3), .val (.int p4), .val (.int p5), .val (.int r_1), .val (.int r_2), .val (.int r_3), .val (.int r_4), .val (.int (1 : Int32)), .val (.ref b5), .unset, .unset, .unset, .unset, .unset, .unset, .unset, .unset] []) _
  refine own_st (fun t_ k_ => XS.iconst X9.here hx rfl (hb hby at_42) k_) ?_
  show own_Go p e below T9 (mkF m 43 #[.val (.int p0), .val (.int p1), .val (.int p2), .val (.int p3), .val (.int p4), .val (.int p5), .val (.int r_1), .val (.int r_2), .val (.int r_3), .val (.int r_4), .val (.int (1 : Int32)), .val (.ref b5), .unset, .unset, .unset, .unset, .unset, .unset, .unset, .unset] [(.int (2 : Int32))]) _
  have f12 := (Nat.le_trans (Nat.le_trans Z0 E5.1) (Keep.of_wr W9).1)
  obtain ⟨T13, h13, k13, X13, e13, E13, A13, st13⟩ := newP X9 hx hZ (hw _ (List.mem_of_getElem? (i := 5) rfl)) e9 (g := (mkF m 43 #[.val (.int p0), .val (.int p1), .val (.int p2), .val (.int p3), .val (.int p4), .val (.int p5), .val (.int r_1), .val (.int r_2), .val (.int r_3), .val (.int r_4), .val (.int (1 : Int32)), .val (.ref b5), .unset, .unset, .unset, .unset, .unset, .unset, .unset, .unset] [(.int (2 : Int32))])) rfl (hb hby at_43) rfl (by decide) (cap := 2) (by decide) (by decide) (by decide) (by decide)
  obtain ⟨b13, g13⟩ : ∃ z, z = h9.size := ⟨_, rfl⟩
  rw [← g13] at A13 st13
  have G13 : n0 ≤ b13 := Nat.le_trans f12 (Nat.le_of_eq g13.symm)
  have B13 : h0.size ≤ b13 := Nat.le_trans K11.1 (Nat.le_of_eq g13.symm)
  have CH14 := CH10.ext E13
  have CR14 := CHr.trans CR10 (CHr.ext E13 CH10)
  have K15 : Keep h0 h13 [] := K11.ext E13
  have V13 : Arv Z h13 b13 k13 .char (2 : Int32) [(.int (0 : Int32)), (.int (0 : Int32))] (.int (0 : Int32)) := (Arv.new A13 (by decide)).pad (pad_rep [] (.int (0 : Int32)) 2)
  refine own_st st13 ?_
  show own_Go p e below T13 (mkF m 45 #[.val (.int p0), .val (.int p1), .val (.int p2), .val (.int p3), .val (.int p4), .val (.int p5), .val (.int r_1), .val (.int r_2), .val (.int r_3), .val (.int r_4), .val (.int (1 : Int32)), .val (.ref b5), .unset, .unset, .unset, .unset, .unset, .unset, .unset, .unset] [(.ref b13)]) _
  refine own_st (fun t_ k_ => XS.dup X13.here hx rfl (hb hby at_45) rfl rfl k_) ?_
  show own_Go p e below T13 (mkF m 46 #[.val (.int p0), .val (.int p1), .val (.int p2), .val (.int p3), .val (.int p4), .val (.int p5), .val (.int r_1), .val (.int r_2), .val (.int r_3), .val (.int r_4), .val (.int (1 : Int32)), .val (.ref b5), .unset, .unset, .unset, .unset, .unset, .unset, .unset, .unset] [(.ref b13), (.ref b13)]) _
  refine own_st (fun t_ k_ => XS.iconst X13.here hx rfl (hb hby at_46) k_) ?_
  show own_Go p e below T13 (mkF m 47 #[.val (.int p0), .val (.int p1), .val (.int p2), .val (.int p3), .val (.int p4), .val (.int p5), .val (.int r_1), .val (.int r_2), .val (.int r_3), .val (.int r_4), .val (.int (1 : Int32)), .val (.ref b5), .unset, .unset, .unset, .unset, .unset, .unset, .unset, .unset] [(.int (0 : Int32)), (.ref b13), (.ref b13)]) _
  refine own_st (fun t_ k_ => XS.iload X13.here hx rfl (hb hby at_47) rfl k_) ?_
  show own_Go p e below T13 (mkF m 49 #[.val (.int p0), .val (.int p1), .val (.int p2), .val (.int p3), .val (.int p4), .val (.int p5), .val (.int r_1), .val (.int r_2), .val (.int r_3), .val (.int r_4), .val (.int (1 : Int32)), .val (.ref b5), .unset, .unset, .unset, .unset, .unset, .unset, .unset, .unset] [(.int r_1), (.int (0 : Int32)), (.ref b13), (.ref b13)]) _
  obtain ⟨cl16, Ar16, q16, Sz16, Nn16, Hh16, Gg16⟩ := id V13
  have hin16 : ¬ ((0 : Int32) < 0 ∨ cl16.slots.size ≤ ((0 : Int32)).toNatClampNeg) := inb_of Sz16 ⟨by decide, by decide⟩
  obtain ⟨T17, h17, X17, e17, W17, st17⟩ := stC X13 hx hZ e13 Ar16 (j := (0 : Int32)) hin16 (g := (mkF m 49 #[.val (.int p0), .val (.int p1), .val (.int p2), .val (.int p3), .val (.int p4), .val (.int p5), .val (.int r_1), .val (.int r_2), .val (.int r_3), .val (.int r_4), .val (.int (1 : Int32)), .val (.ref b5), .unset, .unset, .unset, .unset, .unset, .unset, .unset, .unset] [(.int r_1), (.int (0 : Int32)), (.ref b13), (.ref b13)])) rfl rfl (hb hby at_49)
  have V17 : Arv Z h17 b13 k13 .char (2 : Int32) [(.int (nar .char r_1)), (.int (0 : Int32))] (.int (0 : Int32)) := Arv.set Ar16 q16 Sz16 Nn16 Hh16 Gg16 (fits_nar_char _) W17 0 rfl (Nat.le_of_ble_eq_true rfl)
  rw [own_alnar q1_0] at V17
  have Sa18 : Safe Z own_EL s.vm h13 b13 := (Safe.arv hZ.alike V13 (by decide))
  have CH18 := CH14.wr W17 Sa18
  have CR18 := CHr.trans CR14 (CHr.wr W17 Sa18 CH14)
  have K19 : Keep h0 h17 [] := K15.wr W17 (Or.inr B13)
  have N17 := Fr.snoc X17 N9 G13
  refine own_st st17 ?_
  show own_Go p e below T17 (mkF m 50 #[.val (.int p0), .val (.int p1), .val (.int p2), .val (.int p3), .val (.int p4), .val (.int p5), .val (.int r_1), .val (.int r_2), .val (.int r_3), .val (.int r_4), .val (.int (1 : Int32)), .val (.ref b5), .unset, .unset, .unset, .unset, .unset, .unset, .unset, .unset] [(.ref b13)]) _
  refine own_st (fun t_ k_ => XS.dup X17.here hx rfl (hb hby at_50) rfl rfl k_) ?_
  show own_Go p e below T17 (mkF m 51 #[.val (.int p0), .val (.int p1), .val (.int p2), .val (.int p3), .val (.int p4), .val (.int p5), .val (.int r_1), .val (.int r_2), .val (.int r_3), .val (.int r_4), .val (.int (1 : Int32)), .val (.ref b5), .unset, .unset, .unset, .unset, .unset, .unset, .unset, .unset] [(.ref b13), (.ref b13)]) _
  refine own_st (fun t_ k_ => XS.iconst X17.here hx rfl (hb hby at_51) k_) ?_
  show own_Go p e below T17 (mkF m 52 #[.val (.int p0), .val (.int p1), .val (.int p2), .val (.int p3), .val (.int p4), .val (.int p5), .val (.int r_1), .val (.int r_2), .val (.int r_3), .val (.int r_4), .val (.int (1 : Int32)), .val (.ref b5), .unset, .unset, .unset, .unset, .unset, .unset, .unset, .unset] [(.int (1 : Int32)), (.ref b13), (.ref b13)]) _
  refine own_st (fun t_ k_ => XS.iload X17.here hx rfl (hb hby at_52) rfl k_) ?_
  show own_Go p e below T17 (mkF m 54 #[.val (.int p0), .val (.int p1), .val (.int p2), .val (.int p3), .val (.int p4), .val (.int p5), .val (.int r_1), .val (.int r_2), .val (.int r_3), .val (.int r_4), .val (.int (1 : Int32)), .val (.ref b5), .unset, .unset, .unset, .unset, .unset, .unset, .unset, .unset] [(.int r_2), (.int (1 : Int32)), (.ref b13), (.ref b13)]) _
  obtain ⟨cl20, Ar20, q20, Sz20, Nn20, Hh20, Gg20⟩ := id V17
  have hin20 : ¬ ((1 : Int32) < 0 ∨ cl20.slots.size ≤ ((1 : Int32)).toNatClampNeg) := inb_of Sz20 ⟨by decide, by decide⟩
  obtain ⟨T21, h21, X21, e21, W21, st21⟩ := stC X17 hx hZ e17 Ar20 (j := (1 : Int32)) hin20 (g := (mkF m 54 #[.val (.int p0), .val (.int p1), .val (.int p2), .val (.int p3), .val (.int p4), .val (.int p5), .val (.int r_1), .val (.int r_2), .val (.int r_3), .val (.int r_4), .val (.int (1 : Int32)), .val (.ref b5), .unset, .unset, .unset, .unset, .unset, .unset, .unset, .unset] [(.int r_2), (.int (1 : Int32)), (.ref b13), (.ref b13)])) rfl rfl (hb hby at_54)
  have V21 : Arv Z h21 b13 k13 .char (2 : Int32) [(.int r_1), (.int (nar .char r_2))] (.int (0 : Int32)) := Arv.set Ar20 q20 Sz20 Nn20 Hh20 Gg20 (fits_nar_char _) W21 1 rfl (Nat.le_of_ble_eq_true rfl)
  rw [own_alnar q2_0] at V21
  have Sa22 : Safe Z own_EL s.vm h17 b13 := (Safe.arv hZ.alike V17 (by decide))
  have CH22 := CH18.wr W21 Sa22
  have CR22 := CHr.trans CR18 (CHr.wr W21 Sa22 CH18)
  have K23 : Keep h0 h21 [] := K19.wr W21 (Or.inr B13)
  have N21 := Fr.snoc X21 N17 G13
  refine own_st st21 ?_
  show own_Go p e below T21 (mkF m 55 #[.val (.int p0), .val (.int p1), .val (.int p2), .val (.int p3), .val (.int p4), .val (.int p5), .val (.int r_1), .val (.int r_2), .val (.int r_3), .val (.int r_4), .val (.int (1 : Int32)), .val (.ref b5), .unset, .unset, .unset, .unset, .unset, .unset, .unset, .unset] [(.ref b13)]) _
  refine own_st (fun t_ k_ => XS.astore X21.here hx rfl (hb hby at_55) rfl rfl (l' := #[.val (.int p0), .val (.int p1), .val (.int p2), .val (.int p3), .val (.int p4), .val (.int p5), .val (.int r_1), .val (.int r_2), .val (.int r_3), .val (.int r_4), .val (.int (1 : Int32)), .val (.ref b5), .val (.ref b13), .unset, .unset, .unset, .unset, .unset, .unset, .unset]) rfl k_) ?_
  show own_Go p e below T21 (mkF m 57 #[.val (.int p0), .val (.int p1), .val (.int p2), .val (.int p3), .val (.int p4), .val (.int p5), .val (.int r_1), .val (.int r_2), .val (.int r_3), .val (.int r_4), .val (.int (1 : Int32)), .val (.ref b5), .val (.ref b13), .unset, .unset, .unset, .unset, .unset, .unset, .unset] []) _
  refine own_st (fun t_ k_ => XS.iconst X21.here hx rfl (hb hby at_57) k_) ?_
  show own_Go p e below T21 (mkF m 58 #[.val (.int p0), .val (.int p1), .val (.int p2), .val (.int p3), .val (.int p4), .val (.int p5), .val (.int r_1), .val (.int r_2), .val (.int r_3), .val (.int r_4), .val (.int (1 : Int32)), .val (.ref b5), .val (.ref b13), .unset, .unset, .unset, .unset, .unset, .unset, .unset] [(.int (3 : Int32))]) _
  have f24 := (Nat.le_trans (Nat.le_trans (Nat.le_trans f12 E13.1) (Keep.of_wr W17).1) (Keep.of_wr W21).1)
  obtain ⟨T25, h25, k25, X25, e25, E25, A25, st25⟩ := newP X21 hx hZ (hw _ (List.mem_of_getElem? (i := 5) rfl)) e21 (g := (mkF m 58 #[.val (.int p0), .val (.int p1), .val (.int p2), .val (.int p3), .val (.int p4), .val (.int p5), .val (.int r_1), .val (.int r_2), .val (.int r_3), .val (.int r_4), .val (.int (1 : Int32)), .val (.ref b5), .val (.ref b13), .unset, .unset, .unset, .unset, .unset, .unset, .unset] [(.int (3 : Int32))])) rfl (hb hby at_58) rfl (by decide) (cap := 3) (by decide) (by decide) (by decide) (by decide)
  obtain ⟨b25, g25⟩ : ∃ z, z = h21.size := ⟨_, rfl⟩
  rw [← g25] at A25 st25
  have G25 : n0 ≤ b25 := Nat.le_trans f24 (Nat.le_of_eq g25.symm)
  have B25 : h0.size ≤ b25 := Nat.le_trans K23.1 (Nat.le_of_eq g25.symm)
  have CH26 := CH22.ext E25
  have CR26 := CHr.trans CR22 (CHr.ext E25 CH22)
  have K27 : Keep h0 h25 [] := K23.ext E25
  have V25 : Arv Z h25 b25 k25 .char (3 : Int32) [(.int (0 : Int32)), (.int (0 : Int32)), (.int (0 : Int32))] (.int (0 : Int32)) := (Arv.new A25 (by decide)).pad (pad_rep [] (.int (0 : Int32)) 3)
  refine own_st st25 ?_
  show own_Go p e below T25 (mkF m 60 #[.val (.int p0), .val (.int p1), .val (.int p2), .val (.int p3), .val (.int p4), .val (.int p5), .val (.int r_1), .val (.int r_2), .val (.int r_3), .val (.int r_4), .val (.int (1 : Int32)), .val (.ref b5), .val (.ref b13), .unset, .unset, .unset, .unset, .unset, .unset, .unset] [(.ref b25)]) _
  refine own_st (fun t_ k_ => XS.dup X25.here hx rfl (hb hby at_60) rfl rfl k_) ?_
  show own_Go p e below T25 (mkF m 61 #[.val (.int p0), .val (.int p1), .val (.int p2), .val (.int p3), .val (.int p4), .val (.int p5), .val (.int r_1), .val (.int r_2), .val (.int r_3), .val (.int r_4), .val (.int (1 : Int32)), .val (.ref b5), .val (.ref b13), .unset, .unset, .unset, .unset, .unset, .unset, .unset] [(.ref b25), (.ref b25)]) _
  refine own_st (fun t_ k_ => XS.iconst X25.here hx rfl (hb hby at_61) k_) ?_
  show own_Go p e below T25 (mkF m 62 #[.val (.int p0), .val (.int p1), .val (.int p2), .val (.int p3), .val (.int p4), .val (.int p5), .val (.int r_1), .val (.int r_2), .val (.int r_3), .val (.int r_4), .val (.int (1 : Int32)), .val (.ref b5), .val (.ref b13), .unset, .unset, .unset, .unset, .unset, .unset, .unset] [(.int (0 : Int32)), (.ref b25), (.ref b25)]) _
  refine own_st (fun t_ k_ => XS.iload X25.here hx rfl (hb hby at_62) rfl k_) ?_
  show own_Go p e below T25 (mkF m 64 #[.val (.int p0), .val (.int p1), .val (.int p2), .val (.int p3), .val (.int p4), .val (.int p5), .val (.int r_1), .val (.int r_2), .val (.int r_3), .val (.int r_4), .val (.int (1 : Int32)), .val (.ref b5), .val (.ref b13), .unset, .unset, .unset, .unset, .unset, .unset, .unset] [(.int r_1), (.int (0 : Int32)), (.ref b25), (.ref b25)]) _
  obtain ⟨cl28, Ar28, q28, Sz28, Nn28, Hh28, Gg28⟩ := id V25
  have hin28 : ¬ ((0 : Int32) < 0 ∨ cl28.slots.size ≤ ((0 : Int32)).toNatClampNeg) := inb_of Sz28 ⟨by decide, by decide⟩
  obtain ⟨T29, h29, X29, e29, W29, st29⟩ := stC X25 hx hZ e25 Ar28 (j := (0 : Int32)) hin28 (g := (mkF m 64 #[.val (.int p0), .val (.int p1), .val (.int p2), .val (.int p3), .val (.int p4), .val (.int p5), .val (.int r_1), .val (.int r_2), .val (.int r_3), .val (.int r_4), .val (.int (1 : Int32)), .val (.ref b5), .val (.ref b13), .unset, .unset, .unset, .unset, .unset, .unset, .unset] [(.int r_1), (.int (0 : Int32)), (.ref b25), (.ref b25)])) rfl rfl (hb hby at_64)
  have V29 : Arv Z h29 b25 k25 .char (3 : Int32) [(.int (nar .char r_1)), (.int (0 : Int32)), (.int (0 : Int32))] (.int (0 : Int32)) := Arv.set Ar28 q28 Sz28 Nn28 Hh28 Gg28 (fits_nar_char _) W29 0 rfl (Nat.le_of_ble_eq_true rfl)
  rw [own_alnar q1_0] at V29
  have Sa30 : Safe Z own_EL s.vm h25 b25 := (Safe.arv hZ.alike V25 (by decide))
  have CH30 := CH26.wr W29 Sa30
  have CR30 := CHr.trans CR26 (CHr.wr W29 Sa30 CH26)
  have K31 : Keep h0 h29 [] := K27.wr W29 (Or.inr B25)
  have N29 := Fr.snoc X29 N21 G25
  refine own_st st29 ?_
  show own_Go p e below T29 (mkF m 65 #[.val (.int p0), .val (.int p1), .val (.int p2), .val (.int p3), .val (.int p4), .val (.int p5), .val (.int r_1), .val (.int r_2), .val (.int r_3), .val (.int r_4), .val (.int (1 : Int32)), .val (.ref b5), .val (.ref b13), .unset, .unset, .unset, .unset, .unset, .unset, .unset] [(.ref b25)]) _
  refine own_st (fun t_ k_ => XS.dup X29.here hx rfl (hb hby at_65) rfl rfl k_) ?_
  show own_Go p e below T29 (mkF m 66 #[.val (.int p0), .val (.int p1), .val (.int p2), .val (.int p3), .val (.int p4), .val (.int p5), .val (.int r_1), .val (.int r_2), .val (.int r_3), .val (.int r_4), .val (.int (1 : Int32)), .val (.ref b5), .val (.ref b13), .unset, .unset, .unset, .unset, .unset, .unset, .unset] [(.ref b25), (.ref b25)]) _
  refine own_st (fun t_ k_ => XS.iconst X29.here hx rfl (hb hby at_66) k_) ?_
  show own_Go p e below T29 (mkF m 67 #[.val (.int p0), .val (.int p1), .val (.int p2), .val (.int p3), .val (.int p4), .val (.int p5), .val (.int r_1), .val (.int r_2), .val (.int r_3), .val (.int r_4), .val (.int (1 : Int32)), .val (.ref b5), .val (.ref b13), .unset, .unset, .unset, .unset, .unset, .unset, .unset] [(.int (1 : Int32)), (.ref b25), (.ref b25)]) _
  refine own_st (fun t_ k_ => XS.iload X29.here hx rfl (hb hby at_67) rfl k_) ?_
  show own_Go p e below T29 (mkF m 69 #[.val (.int p0), .val (.int p1), .val (.int p2), .val (.int p3), .val (.int p4), .val (.int p5), .val (.int r_1), .val (.int r_2), .val (.int r_3), .val (.int r_4), .val (.int (1 : Int32)), .val (.ref b5), .val (.ref b13), .unset, .unset, .unset, .unset, .unset, .unset, .unset] [(.int r_2), (.int (1 : Int32)), (.ref b25), (.ref b25)]) _
  obtain ⟨cl32, Ar32, q32, Sz32, Nn32, Hh32, Gg32⟩ := id V29
  have hin32 : ¬ ((1 : Int32) < 0 ∨ cl32.slots.size ≤ ((1 : Int32)).toNatClampNeg) := inb_of Sz32 ⟨by decide, by decide⟩
  obtain ⟨T33, h33, X33, e33, W33, st33⟩ := stC X29 hx hZ e29 Ar32 (j := (1 : Int32)) hin32 (g := (mkF m 69 #[.val (.int p0), .val (.int p1), .val (.int p2), .val (.int p3), .val (.int p4), .val (.int p5), .val (.int r_1), .val (.int r_2), .val (.int r_3), .val (.int r_4), .val (.int (1 : Int32)), .val (.ref b5), .val (.ref b13), .unset, .unset, .unset, .unset, .unset, .unset, .unset] [(.int r_2), (.int (1 : Int32)), (.ref b25), (.ref b25)])) rfl rfl (hb hby at_69)
  have V33 : Arv Z h33 b25 k25 .char (3 : Int32) [(.int r_1), (.int (nar .char r_2)), (.int (0 : Int32))] (.int (0 : Int32)) := Arv.set Ar32 q32 Sz32 Nn32 Hh32 Gg32 (fits_nar_char _) W33 1 rfl (Nat.le_of_ble_eq_true rfl)
  rw [own_alnar q2_0] at V33
  have Sa34 : Safe Z own_EL s.vm h29 b25 := (Safe.arv hZ.alike V29 (by decide))
  have CH34 := CH30.wr W33 Sa34
  have CR34 := CHr.trans CR30 (CHr.wr W33 Sa34 CH30)
  have K35 : Keep h0 h33 [] := K31.wr W33 (Or.inr B25)
  have N33 := Fr.snoc X33 N29 G25
  refine own_st st33 ?_
  show own_Go p e below T33 (mkF m 70 #[.val (.int p0), .val (.int p1), .val (.int p2), .val (.int p3), .val (.int p4), .val (.int p5), .val (.int r_1), .val (.int r_2), .val (.int r_3), .val (.int r_4), .val (.int (1 : Int32)), .val (.ref b5), .val (.ref b13), .unset, .unset, .unset, .unset, .unset, .unset, .unset] [(.ref b25)]) _
  refine own_st (fun t_ k_ => XS.dup X33.here hx rfl (hb hby at_70) rfl rfl k_) ?_
  show own_Go p e below T33 (mkF m 71 #[.val (.int p0), .val (.int p1), .val (.int p2), .val (.int p3), .val (.int p4), .val (.int p5), .val (.int r_1), .val (.int r_2), .val (.int r_3), .val (.int r_4), .val (.int (1 : Int32)), .val (.ref b5), .val (.ref b13), .unset, .unset, .unset, .unset, .unset, .unset, .unset] [(.ref b25), (.ref b25)]) _
  refine own_st (fun t_ k_ => XS.iconst X33.here hx rfl (hb hby at_71) k_) ?_
  show own_Go p e below T33 (mkF m 72 #[.val (.int p0), .val (.int p1), .val (.int p2), .val (.int p3), .val (.int p4), .val (.int p5), .val (.int r_1), .val (.int r_2), .val (.int r_3), .val (.int r_4), .val (.int (1 : Int32)), .val (.ref b5), .val (.ref b13), .unset, .unset, .unset, .unset, .unset, .unset, .unset] [(.int (2 : Int32)), (.ref b25), (.ref b25)]) _
  refine own_st (fun t_ k_ => XS.iload X33.here hx rfl (hb hby at_72) rfl k_) ?_
  show own_Go p e below T33 (mkF m 74 #[.val (.int p0), .val (.int p1), .val (.int p2), .val (.int p3), .val (.int p4), .val (.int p5), .val (.int r_1), .val (.int r_2), .val (.int r_3), .val (.int r_4), .val (.int (1 : Int32)), .val (.ref b5), .val (.ref b13), .unset, .unset, .unset, .unset, .unset, .unset, .unset] [(.int r_3), (.int (2 : Int32)), (.ref b25), (.ref b25)]) _
  obtain ⟨cl36, Ar36, q36, Sz36, Nn36, Hh36, Gg36⟩ := id V33
  have hin36 : ¬ ((2 : Int32) < 0 ∨ cl36.slots.size ≤ ((2 : Int32)).toNatClampNeg) := inb_of Sz36 ⟨by decide, by decide⟩
  obtain ⟨T37, h37, X37, e37, W37, st37⟩ := stC X33 hx hZ e33 Ar36 (j := (2 : Int32)) hin36 (g := (mkF m 74 #[.val (.int p0), .val (.int p1), .val (.int p2), .val (.int p3), .val (.int p4), .val (.int p5), .val (.int r_1), .val (.int r_2), .val (.int r_3), .val (.int r_4), .val (.int (1 : Int32)), .val (.ref b5), .val (.ref b13), .unset, .unset, .unset, .unset, .unset, .unset, .unset] [(.int r_3), (.int (2 : Int32)), (.ref b25), (.ref b25)])) rfl rfl (hb hby at_74)
  have V37 : Arv Z h37 b25 k25 .char (3 : Int32) [(.int r_1), (.int r_2), (.int (nar .char r_3))] (.int (0 : Int32)) := Arv.set Ar36 q36 Sz36 Nn36 Hh36 Gg36 (fits_nar_char _) W37 2 rfl (Nat.le_of_ble_eq_true rfl)
  rw [own_alnar q3_0] at V37
  have Sa38 : Safe Z own_EL s.vm h33 b25 := (Safe.arv hZ.alike V33 (by decide))
  have CH38 := CH34.wr W37 Sa38
  have CR38 := CHr.trans CR34 (CHr.wr W37 Sa38 CH34)
  have K39 : Keep h0 h37 [] := K35.wr W37 (Or.inr B25)
  have N37 := Fr.snoc X37 N33 G25
  refine own_st st37 ?_
  show own_Go p e below T37 (mkF m 75 #[.val (.int p0), .val (.int p1), .val (.int p2), .val (.int p3), .val (.int p4), .val (.int p5), .val (.int r_1), .val (.int r_2), .val (.int r_3), .val (.int r_4), .val (.int (1 : Int32)), .val (.ref b5), .val (.ref b13), .unset, .unset, .unset, .unset, .unset, .unset, .unset] [(.ref b25)]) _
  refine own_st (fun t_ k_ => XS.astore X37.here hx rfl (hb hby at_75) rfl rfl (l' := #[.val (.int p0), .val (.int p1), .val (.int p2), .val (.int p3), .val (.int p4), .val (.int p5), .val (.int r_1), .val (.int r_2), .val (.int r_3), .val (.int r_4), .val (.int (1 : Int32)), .val (.ref b5), .val (.ref b13), .val (.ref b25), .unset, .unset, .unset, .unset, .unset, .unset]) rfl k_) ?_
  show own_Go p e below T37 (mkF m 77 #[.val (.int p0), .val (.int p1), .val (.int p2), .val (.int p3), .val (.int p4), .val (.int p5), .val (.int r_1), .val (.int r_2), .val (.int r_3), .val (.int r_4), .val (.int (1 : Int32)), .val (.ref b5), .val (.ref b13), .val (.ref b25), .unset, .unset, .unset, .unset, .unset, .unset] []) _
  refine own_st (fun t_ k_ => XS.iconst X37.here hx rfl (hb hby at_77) k_) ?_
  show own_Go p e below T37 (mkF m 78 #[.val (.int p0), .val (.int p1), .val (.int p2), .val (.int p3), .val (.int p4), .val (.int p5), .val (.int r_1), .val (.int r_2), .val (.int r_3), .val (.int r_4), .val (.int (1 : Int32)), .val (.ref b5), .val (.ref b13), .val (.ref b25), .unset, .unset, .unset, .unset, .unset, .unset] [(.int (4 : Int32))]) _
  have f40 := (Nat.le_trans (Nat.le_trans (Nat.le_trans (Nat.le_trans f24 E25.1) (Keep.of_wr W29).1) (Keep.of_wr W33).1) (Keep.of_wr W37).1)
  obtain ⟨T41, h41, k41, X41, e41, E41, A41, st41⟩ := newP X37 hx hZ (hw _ (List.mem_of_getElem? (i := 5) rfl)) e37 (g := (mkF m 78 #[.val (.int p0), .val (.int p1), .val (.int p2), .val (.int p3), .val (.int p4), .val (.int p5), .val (.int r_1), .val (.int r_2), .val (.int r_3), .val (.int r_4), .val (.int (1 : Int32)), .val (.ref b5), .val (.ref b13), .val (.ref b25), .unset, .unset, .unset, .unset, .unset, .unset] [(.int (4 : Int32))])) rfl (hb hby at_78) rfl (by decide) (cap := 4) (by decide) (by decide) (by decide) (by decide)
  obtain ⟨b41, g41⟩ : ∃ z, z = h37.size := ⟨_, rfl⟩
  rw [← g41] at A41 st41
  have G41 : n0 ≤ b41 := Nat.le_trans f40 (Nat.le_of_eq g41.symm)
  have B41 : h0.size ≤ b41 := Nat.le_trans K39.1 (Nat.le_of_eq g41.symm)
  have CH42 := CH38.ext E41
  have CR42 := CHr.trans CR38 (CHr.ext E41 CH38)
  have K43 : Keep h0 h41 [] := K39.ext E41
  have V41 : Arv Z h41 b41 k41 .char (4 : Int32) [(.int (0 : Int32)), (.int (0 : Int32)), (.int (0 : Int32)), (.int (0 : Int32))] (.int (0 : Int32)) := (Arv.new A41 (by decide)).pad (pad_rep [] (.int (0 : Int32)) 4)
  refine own_st st41 ?_
  show own_Go p e below T41 (mkF m 80 #[.val (.int p0), .val (.int p1), .val (.int p2), .val (.int p3), .val (.int p4), .val (.int p5), .val (.int r_1), .val (.int r_2), .val (.int r_3), .val (.int r_4), .val (.int (1 : Int32)), .val (.ref b5), .val (.ref b13), .val (.ref b25), .unset, .unset, .unset, .unset, .unset, .unset] [(.ref b41)]) _
  refine own_st (fun t_ k_ => XS.dup X41.here hx rfl (hb hby at_80) rfl rfl k_) ?_
  show own_Go p e below T41 (mkF m 81 #[.val (.int p0), .val (.int p1), .val (.int p2), .val (.int p3), .val (.int p4), .val (.int p5), .val (.int r_1), .val (.int r_2), .val (.int r_3), .val (.int r_4), .val (.int (1 : Int32)), .val (.ref b5), .val (.ref b13), .val (.ref b25), .unset, .unset, .unset, .unset, .unset, .unset] [(.ref b41), (.ref b41)]) _
  refine own_st (fun t_ k_ => XS.iconst X41.here hx rfl (hb hby at_81) k_) ?_
  show own_Go p e below T41 (mkF m 82 #[.val (.int p0), .val (.int p1), .val (.int p2), .val (.int p3), .val (.int p4), .val (.int p5), .val (.int r_1), .val (.int r_2), .val (.int r_3), .val (.int r_4), .val (.int (1 : Int32)), .val (.ref b5), .val (.ref b13), .val (.ref b25), .unset, .unset, .unset, .unset, .unset, .unset] [(.int (0 : Int32)), (.ref b41), (.ref b41)]) _
  refine own_st (fun t_ k_ => XS.iload X41.here hx rfl (hb hby at_82) rfl k_) ?_
  show own_Go p e below T41 (mkF m 84 #[.val (.int p0), .val (.int p1), .val (.int p2), .val (.int p3), .val (.int p4), .val (.int p5), .val (.int r_1), .val (.int r_2), .val (.int r_3), .val (.int r_4), .val (.int (1 : Int32)), .val (.ref b5), .val (.ref b13), .val (.ref b25), .unset, .unset, .unset, .unset, .unset, .unset] [(.int r_1), (.int (0 : Int32)), (.ref b41), (.ref b41)]) _
  obtain ⟨cl44, Ar44, q44, Sz44, Nn44, Hh44, Gg44⟩ := id V41
  have hin44 : ¬ ((0 : Int32) < 0 ∨ cl44.slots.size ≤ ((0 : Int32)).toNatClampNeg) := inb_of Sz44 ⟨by decide, by decide⟩
  obtain ⟨T45, h45, X45, e45, W45, st45⟩ := stC X41 hx hZ e41 Ar44 (j := (0 : Int32)) hin44 (g := (mkF m 84 #[.val (.int p0), .val (.int p1), .val (.int p2), .val (.int p3), .val (.int p4), .val (.int p5), .val (.int r_1), .val (.int r_2), .val (.int r_3), .val (.int r_4), .val (.int (1 : Int32)), .val (.ref b5), .val (.ref b13), .val (.ref b25), .unset, .unset, .unset, .unset, .unset, .unset] [(.int r_1), (.int (0 : Int32)), (.ref b41), (.ref b41)])) rfl rfl (hb hby at_84)
  have V45 : Arv Z h45 b41 k41 .char (4 : Int32) [(.int (nar .char r_1)), (.int (0 : Int32)), (.int (0 : Int32)), (.int (0 : Int32))] (.int (0 : Int32)) := Arv.set Ar44 q44 Sz44 Nn44 Hh44 Gg44 (fits_nar_char _) W45 0 rfl (Nat.le_of_ble_eq_true rfl)
  rw [own_alnar q1_0] at V45
  have Sa46 : Safe Z own_EL s.vm h41 b41 := (Safe.arv hZ.alike V41 (by decide))
  have CH46 := CH42.wr W45 Sa46
  have CR46 := CHr.trans CR42 (CHr.wr W45 Sa46 CH42)
  have K47 : Keep h0 h45 [] := K43.wr W45 (Or.inr B41)
  have N45 := Fr.snoc X45 N37 G41
  refine own_st st45 ?_
  show own_Go p e below T45 (mkF m 85 #[.val (.int p0), .val (.int p1), .val (.int p2), .val (.int p3), .val (.int p4), .val (.int p5), .val (.int r_1), .val (.int r_2), .val (.int r_3), .val (.int r_4), .val (.int (1 : Int32)), .val (.ref b5), .val (.ref b13), .val (.ref b25), .unset, .unset, .unset, .unset, .unset, .unset] [(.ref b41)]) _
  refine own_st (fun t_ k_ => XS.dup X45.here hx rfl (hb hby at_85) rfl rfl k_) ?_
  show own_Go p e below T45 (mkF m 86 #[.val (.int p0), .val (.int p1), .val (.int p2), .val (.int p3), .val (.int p4), .val (.int p5), .val (.int r_1), .val (.int r_2), .val (.int r_3), .val (.int r_4), .val (.int (1 : Int32)), .val (.ref b5), .val (.ref b13), .val (.ref b25), .unset, .unset, .unset, .unset, .unset, .unset] [(.ref b41), (.ref b41)]) _
  refine own_st (fun t_ k_ => XS.iconst X45.here hx rfl (hb hby at_86) k_) ?_
  show own_Go p e below T45 (mkF m 87 #[.val (.int p0), .val (.int p1), .val (.int p2), .val (.int p3), .val (.int p4), .val (.int p5), .val (.int r_1), .val (.int r_2), .val (.int r_3), .val (.int r_4), .val (.int (1 : Int32)), .val (.ref b5), .val (.ref b13), .val (.ref b25), .unset, .unset, .unset, .unset, .unset, .unset] [(.int (1 : Int32)), (.ref b41), (.ref b41)]) _
  refine own_st (fun t_ k_ => XS.iload X45.here hx rfl (hb hby at_87) rfl k_) ?_
  show own_Go p e below T45 (mkF m 89 #[.val (.int p0), .val (.int p1), .val (.int p2), .val (.int p3), .val (.int p4), .val (.int p5), .val (.int r_1), .val (.int r_2), .val (.int r_3), .val (.int r_4), .val (.int (1 : Int32)), .val (.ref b5), .val (.ref b13), .val (.ref b25), .unset, .unset, .unset, .unset, .unset, .unset] [(.int r_2), (.int (1 : Int32)), (.ref b41), (.ref b41)]) _
  obtain ⟨cl48, Ar48, q48, Sz48, Nn48, Hh48, Gg48⟩ := id V45
  have hin48 : ¬ ((1 : Int32) < 0 ∨ cl48.slots.size ≤ ((1 : Int32)).toNatClampNeg) := inb_of Sz48 ⟨by decide, by decide⟩
  obtain ⟨T49, h49, X49, e49, W49, st49⟩ := stC X45 hx hZ e45 Ar48 (j := (1 : Int32)) hin48 (g := (mkF m 89 #[.val (.int p0), .val (.int p1), .val (.int p2), .val (.int p3), .val (.int p4), .val (.int p5), .val (.int r_1), .val (.int r_2), .val (.int r_3), .val (.int r_4), .val (.int (1 : Int32)), .val (.ref b5), .val (.ref b13), .val (.ref b25), .unset, .unset, .unset, .unset, .unset, .unset] [(.int r_2), (.int (1 : Int32)), (.ref b41), (.ref b41)])) rfl rfl (hb hby at_89)
  have V49 : Arv Z h49 b41 k41 .char (4 : Int32) [(.int r_1), (.int (nar .char r_2)), (.int (0 : Int32)), (.int (0 : Int32))] (.int (0 : Int32)) := Arv.set Ar48 q48 Sz48 Nn48 Hh48 Gg48 (fits_nar_char _) W49 1 rfl (Nat.le_of_ble_eq_true rfl)
  rw [own_alnar q2_0] at V49
  have Sa50 : Safe Z own_EL s.vm h45 b41 := (Safe.arv hZ.alike V45 (by decide))
  have CH50 := CH46.wr W49 Sa50
  have CR50 := CHr.trans CR46 (CHr.wr W49 Sa50 CH46)
  have K51 : Keep h0 h49 [] := K47.wr W49 (Or.inr B41)
  have N49 := Fr.snoc X49 N45 G41
  refine own_st st49 ?_
  show own_Go p e below T49 (mkF m 90 #[.val (.int p0), .val (.int p1), .val (.int p2), .val (.int p3), .val (.int p4), .val (.int p5), .val (.int r_1), .val (.int r_2), .val (.int r_3), .val (.int r_4), .val (.int (1 : Int32)), .val (.ref b5), .val (.ref b13), .val (.ref b25), .unset, .unset, .unset, .unset, .unset, .unset] [(.ref b41)]) _
  refine own_st (fun t_ k_ => XS.dup X49.here hx rfl (hb hby at_90) rfl rfl k_) ?_
  show own_Go p e below T49 (mkF m 91 #[.val (.int p0), .val (.int p1), .val (.int p2), .val (.int p3), .val (.int p4), .val (.int p5), .val (.int r_1), .val (.int r_2), .val (.int r_3), .val (.int r_4), .val (.int (1 : Int32)), .val (.ref b5), .val (.ref b13), .val (.ref b25), .unset, .unset, .unset, .unset, .unset, .unset] [(.ref b41), (.ref b41)]) _
  refine own_st (fun t_ k_ => XS.iconst X49.here hx rfl (hb hby at_91) k_) ?_
  show own_Go p e below T49 (mkF m 92 #[.val (.int p0), .val (.int p1), .val (.int p2), .val (.int p3), .val (.int p4), .val (.int p5), .val (.int r_1), .val (.int r_2), .val (.int r_3), .val (.int r_4), .val (.int (1 : Int32)), .val (.ref b5), .val (.ref b13), .val (.ref b25), .unset, .unset, .unset, .unset, .unset, .unset] [(.int (2 : Int32)), (.ref b41), (.ref b41)]) _
  refine own_st (fun t_ k_ => XS.iload X49.here hx rfl (hb hby at_92) rfl k_) ?_
  show own_Go p e below T49 (mkF m 94 #[.val (.int p0), .val (.int p1), .val (.int p2), .val (.int p3), .val (.int p4), .val (.int p5), .val (.int r_1), .val (.int r_2), .val (.int r_3), .val (.int r_4), .val (.int (1 : Int32)), .val (.ref b5), .val (.ref b13), .val (.ref b25), .unset, .unset, .unset, .unset, .unset, .unset] [(.int r_3), (.int (2 : Int32)), (.ref b41), (.ref b41)]) _
  obtain ⟨cl52, Ar52, q52, Sz52, Nn52, Hh52, Gg52⟩ := id V49
  have hin52 : ¬ ((2 : Int32) < 0 ∨ cl52.slots.size ≤ ((2 : Int32)).toNatClampNeg) := inb_of Sz52 ⟨by decide, by decide⟩
  obtain ⟨T53, h53, X53, e53, W53, st53⟩ := stC X49 hx hZ e49 Ar52 (j := (2 : Int32)) hin52 (g := (mkF m 94 #[.val (.int p0), .val (.int p1), .val (.int p2), .val (.int p3), .val (.int p4), .val (.int p5), .val (.int r_1), .val (.int r_2), .val (.int r_3), .val (.int r_4), .val (.int (1 : Int32)), .val (.ref b5), .val (.ref b13), .val (.ref b25), .unset, .unset, .unset, .unset, .unset, .unset] [(.int r_3), (.int (2 : Int32)), (.ref b41), (.ref b41)])) rfl rfl (hb hby at_94)
  have V53 : Arv Z h53 b41 k41 .char (4 : Int32) [(.int r_1), (.int r_2), (.int (nar .char r_3)), (.int (0 : Int32))] (.int (0 : Int32)) := Arv.set Ar52 q52 Sz52 Nn52 Hh52 Gg52 (fits_nar_char _) W53 2 rfl (Nat.le_of_ble_eq_true rfl)
  rw [own_alnar q3_0] at V53
  have Sa54 : Safe Z own_EL s.vm h49 b41 := (Safe.arv hZ.alike V49 (by decide))
  have CH54 := CH50.wr W53 Sa54
  have CR54 := CHr.trans CR50 (CHr.wr W53 Sa54 CH50)
  have K55 : Keep h0 h53 [] := K51.wr W53 (Or.inr B41)
  have N53 := Fr.snoc X53 N49 G41
  refine own_st st53 ?_
  show own_Go p e below T53 (mkF m 95 #[.val (.int p0), .val (.int p1), .val (.int p2), .val (.int p3), .val (.int p4), .val (.int p5), .val (.int r_1), .val (.int r_2), .val (.int r_3), .val (.int r_4), .val (.int (1 : Int32)), .val (.ref b5), .val (.ref b13), .val (.ref b25), .unset, .unset, .unset, .unset, .unset, .unset] [(.ref b41)]) _
  refine own_st (fun t_ k_ => XS.dup X53.here hx rfl (hb hby at_95) rfl rfl k_) ?_
  show own_Go p e below T53 (mkF m 96 #[.val (.int p0), .val (.int p1), .val (.int p2), .val (.int p3), .val (.int p4), .val (.int p5), .val (.int r_1), .val (.int r_2), .val (.int r_3), .val (.int r_4), .val (.int (1 : Int32)), .val (.ref b5), .val (.ref b13), .val (.ref b25), .unset, .unset, .unset, .unset, .unset, .unset] [(.ref b41), (.ref b41)]) _
  refine own_st (fun t_ k_ => XS.iconst X53.here hx rfl (hb hby at_96) k_) ?_
  show own_Go p e below T53 (mkF m 97 #[.val (.int p0), .val (.int p1), .val (.int p2), .val (.int p3), .val (.int p4), .val (.int p5), .val (.int r_1), .val (.int r_2), .val (.int r_3), .val (.int r_4), .val (.int (1 : Int32)), .val (.ref b5), .val (.ref b13), .val (.ref b25), .unset, .unset, .unset, .unset, .unset, .unset] [(.int (3 : Int32)), (.ref b41), (.ref b41)]) _
  refine own_st (fun t_ k_ => XS.iload X53.here hx rfl (hb hby at_97) rfl k_) ?_
  show own_Go p e below T53 (mkF m 99 #[.val (.int p0), .val (.int p1), .val (.int p2), .val (.int p3), .val (.int p4), .val (.int p5), .val (.int r_1), .val (.int r_2), .val (.int r_3), .val (.int r_4), .val (.int (1 : Int32)), .val (.ref b5), .val (.ref b13), .val (.ref b25), .unset, .unset, .unset, .unset, .unset, .unset] [(.int r_4), (.int (3 : Int32)), (.ref b41), (.ref b41)]) _
  obtain ⟨cl56, Ar56, q56, Sz56, Nn56, Hh56, Gg56⟩ := id V53
  have hin56 : ¬ ((3 : Int32) < 0 ∨ cl56.slots.size ≤ ((3 : Int32)).toNatClampNeg) := inb_of Sz56 ⟨by decide, by decide⟩
  obtain ⟨T57, h57, X57, e57, W57, st57⟩ := stC X53 hx hZ e53 Ar56 (j := (3 : Int32)) hin56 (g := (mkF m 99 #[.val (.int p0), .val (.int p1), .val (.int p2), .val (.int p3), .val (.int p4), .val (.int p5), .val (.int r_1), .val (.int r_2), .val (.int r_3), .val (.int r_4), .val (.int (1 : Int32)), .val (.ref b5), .val (.ref b13), .val (.ref b25), .unset, .unset, .unset, .unset, .unset, .unset] [(.int r_4), (.int (3 : Int32)), (.ref b41), (.ref b41)])) rfl rfl (hb hby at_99)
  have V57 : Arv Z h57 b41 k41 .char (4 : Int32) [(.int r_1), (.int r_2), (.int r_3), (.int (nar .char r_4))] (.int (0 : Int32)) := Arv.set Ar56 q56 Sz56 Nn56 Hh56 Gg56 (fits_nar_char _) W57 3 rfl (Nat.le_of_ble_eq_true rfl)
  rw [own_alnar q4_0] at V57
  have Sa58 : Safe Z own_EL s.vm h53 b41 := (Safe.arv hZ.alike V53 (by decide))
  have CH58 := CH54.wr W57 Sa58
  have CR58 := CHr.trans CR54 (CHr.wr W57 Sa58 CH54)
  have K59 : Keep h0 h57 [] := K55.wr W57 (Or.inr B41)
  have N57 := Fr.snoc X57 N53 G41
  refine own_st st57 ?_
  show own_Go p e below T57 (mkF m 100 #[.val (.int p0), .val (.int p1), .val (.int p2), .val (.int p3), .val (.int p4), .val (.int p5), .val (.int r_1), .val (.int r_2), .val (.int r_3), .val (.int r_4), .val (.int (1 : Int32)), .val (.ref b5), .val (.ref b13), .val (.ref b25), .unset, .unset, .unset, .unset, .unset, .unset] [(.ref b41)]) _
  refine own_st (fun t_ k_ => XS.astore X57.here hx rfl (hb hby at_100) rfl rfl (l' := #[.val (.int p0), .val (.int p1), .val (.int p2), .val (.int p3), .val (.int p4), .val (.int p5), .val (.int r_1), .val (.int r_2), .val (.int r_3), .val (.int r_4), .val (.int (1 : Int32)), .val (.ref b5), .val (.ref b13), .val (.ref b25), .val (.ref b41), .unset, .unset, .unset, .unset, .unset]) rfl k_) ?_
  show own_Go p e below T57 (mkF m 102 #[.val (.int p0), .val (.int p1), .val (.int p2), .val (.int p3), .val (.int p4), .val (.int p5), .val (.int r_1), .val (.int r_2), .val (.int r_3), .val (.int r_4), .val (.int (1 : Int32)), .val (.ref b5), .val (.ref b13), .val (.ref b25), .val (.ref b41), .unset, .unset, .unset, .unset, .unset] []) _
  refine own_st (fun t_ k_ => XS.iload X57.here hx rfl (hb hby at_102) rfl k_) ?_
  show own_Go p e below T57 (mkF m 104 #[.val (.int p0), .val (.int p1), .val (.int p2), .val (.int p3), .val (.int p4), .val (.int p5), .val (.int r_1), .val (.int r_2), .val (.int r_3), .val (.int r_4), .val (.int (1 : Int32)), .val (.ref b5), .val (.ref b13), .val (.ref b25), .val (.ref b41), .unset, .unset, .unset, .unset, .unset] [(.int (1 : Int32))]) _
  refine own_st (fun t_ k_ => XS.iconst X57.here hx rfl (hb hby at_104) k_) ?_
  show own_Go p e below T57 (mkF m 105 #[.val (.int p0), .val (.int p1), .val (.int p2), .val (.int p3), .val (.int p4), .val (.int p5), .val (.int r_1), .val (.int r_2), .val (.int r_3), .val (.int r_4), .val (.int (1 : Int32)), .val (.ref b5), .val (.ref b13), .val (.ref b25), .val (.ref b41), .unset, .unset, .unset, .unset, .unset] [(.int (1 : Int32)), (.int (1 : Int32))]) _
  refine own_st (fun t_ k_ => XS.icmpNo X57.here hx rfl (hb hby at_105) rfl (by decide) k_) ?_
  show own_Go p e below T57 (mkF m 108 #[.val (.int p0), .val (.int p1), .val (.int p2), .val (.int p3), .val (.int p4), .val (.int p5), .val (.int r_1), .val (.int r_2), .val (.int r_3), .val (.int r_4), .val (.int (1 : Int32)), .val (.ref b5), .val (.ref b13), .val (.ref b25), .val (.ref b41), .unset, .unset, .unset, .unset, .unset] []) _
  refine own_st (fun t_ k_ => XS.aload X57.here hx rfl (hb hby at_108) rfl rfl k_) ?_
  show own_Go p e below T57 (mkF m 110 #[.val (.int p0), .val (.int p1), .val (.int p2), .val (.int p3), .val (.int p4), .val (.int p5), .val (.int r_1), .val (.int r_2), .val (.int r_3), .val (.int r_4), .val (.int (1 : Int32)), .val (.ref b5), .val (.ref b13), .val (.ref b25), .val (.ref b41), .unset, .unset, .unset, .unset, .unset] [(.ref b5)]) _
  refine own_st (fun t_ k_ => XS.goto X57.here hx rfl (pc0 := 110) (pc' := 137) rfl (hb hby at_110) (by decide) (by decide) k_) ?_
  show own_Go p e below T57 (mkF m 137 #[.val (.int p0), .val (.int p1), .val (.int p2), .val (.int p3), .val (.int p4), .val (.int p5), .val (.int r_1), .val (.int r_2), .val (.int r_3), .val (.int r_4), .val (.int (1 : Int32)), .val (.ref b5), .val (.ref b13), .val (.ref b25), .val (.ref b41), .unset, .unset, .unset, .unset, .unset] [(.ref b5)]) _
  refine own_st (fun t_ k_ => XS.astore X57.here hx rfl (hb hby at_137) rfl rfl (l' := #[.val (.int p0), .val (.int p1), .val (.int p2), .val (.int p3), .val (.int p4), .val (.int p5), .val (.int r_1), .val (.int r_2), .val (.int r_3), .val (.int r_4), .val (.int (1 : Int32)), .val (.ref b5), .val (.ref b13), .val (.ref b25), .val (.ref b41), .val (.ref b5), .unset, .unset, .unset, .unset]) rfl k_) ?_
  show own_Go p e below T57 (mkF m 139 #[.val (.int p0), .val (.int p1), .val (.int p2), .val (.int p3), .val (.int p4), .val (.int p5), .val (.int r_1), .val (.int r_2), .val (.int r_3), .val (.int r_4), .val (.int (1 : Int32)), .val (.ref b5), .val (.ref b13), .val (.ref b25), .val (.ref b41), .val (.ref b5), .unset, .unset, .unset, .unset] []) _
  have f60 := (Nat.le_trans (Nat.le_trans (Nat.le_trans (Nat.le_trans (Nat.le_trans f40 E41.1) (Keep.of_wr W45).1) (Keep.of_wr W49).1) (Keep.of_wr W53).1) (Keep.of_wr W57).1)
  obtain ⟨T61, h61, X61, e61, E61, A61, D61, -, st61⟩ := newO X57 hx hZ hown (hw _ (List.mem_of_getElem? (i := 6) rfl)) (hw _ (List.mem_of_getElem? (i := 7) rfl)) (hw _ (List.mem_of_getElem? (i := 8) rfl)) e57 (g := (mkF m 139 #[.val (.int p0), .val (.int p1), .val (.int p2), .val (.int p3), .val (.int p4), .val (.int p5), .val (.int r_1), .val (.int r_2), .val (.int r_3), .val (.int r_4), .val (.int (1 : Int32)), .val (.ref b5), .val (.ref b13), .val (.ref b25), .val (.ref b41), .val (.ref b5), .unset, .unset, .unset, .unset] [])) rfl (hb hby at_139) (by decide) (by decide)
  obtain ⟨b61, g61⟩ : ∃ z, z = h57.size := ⟨_, rfl⟩
  rw [← g61] at A61 D61 st61
  have G61 : n0 ≤ b61 := Nat.le_trans f60 (Nat.le_of_eq g61.symm)
  have B61 : h0.size ≤ b61 := Nat.le_trans K59.1 (Nat.le_of_eq g61.symm)
  have CH62 := CH58.ext E61
  have CR62 := CHr.trans CR58 (CHr.ext E61 CH58)
  have K63 : Keep h0 h61 [] := K59.ext E61
  have SF61 : Safe Z own_EL s.vm h61 b61 := Safe.ext E61 CH58 (Safe.new (x := b61) (Nat.le_of_eq g61.symm))
  have D61_coder : Fld Z h61 b61 "java/lang/String" "coder" "B" (.int (0 : Int32)) := D61 (Or.inr (hw _ (List.mem_of_getElem? (i := 32) rfl))) (ty := .byte) (by decide)
  have D61_value : Fld Z h61 b61 "java/lang/String" "value" "[B" .null := D61 (Or.inr (hw _ (List.mem_of_getElem? (i := 34) rfl))) (ty := (.array .byte)) (by decide)
  refine own_st st61 ?_
  show own_Go p e below T61 (mkF m 142 #[.val (.int p0), .val (.int p1), .val (.int p2), .val (.int p3), .val (.int p4), .val (.int p5), .val (.int r_1), .val (.int r_2), .val (.int r_3), .val (.int r_4), .val (.int (1 : Int32)), .val (.ref b5), .val (.ref b13), .val (.ref b25), .val (.ref b41), .val (.ref b5), .unset, .unset, .unset, .unset] [(.ref b61)]) _
  refine own_st (fun t_ k_ => XS.dup X61.here hx rfl (hb hby at_142) rfl rfl k_) ?_
  show own_Go p e below T61 (mkF m 143 #[.val (.int p0), .val (.int p1), .val (.int p2), .val (.int p3), .val (.int p4), .val (.int p5), .val (.int r_1), .val (.int r_2), .val (.int r_3), .val (.int r_4), .val (.int (1 : Int32)), .val (.ref b5), .val (.ref b13), .val (.ref b25), .val (.ref b41), .val (.ref b5), .unset, .unset, .unset, .unset] [(.ref b61), (.ref b61)]) _
  refine own_st (fun t_ k_ => XS.aload X61.here hx rfl (hb hby at_143) rfl rfl k_) ?_
  show own_Go p e below T61 (mkF m 145 #[.val (.int p0), .val (.int p1), .val (.int p2), .val (.int p3), .val (.int p4), .val (.int p5), .val (.int r_1), .val (.int r_2), .val (.int r_3), .val (.int r_4), .val (.int (1 : Int32)), .val (.ref b5), .val (.ref b13), .val (.ref b25), .val (.ref b41), .val (.ref b5), .unset, .unset, .unset, .unset] [(.ref b5), (.ref b61), (.ref b61)]) _
  have hp1 : ∀ c ∈ ([r_1] : List Int32), ¬ c < 0 ∧ ¬ (255 : Int32) < c := by
    intro c hc
    simp only [List.mem_cons, List.not_mem_nil, or_false] at hc
    subst hc
    exact own_al255 q1_0
  have f64 := (Nat.le_trans f60 E61.1)
  have f65 := (((((((((((((V9.ext E13).other W17 (Nat.ne_of_lt (Nat.lt_of_lt_of_le V9.lt (Nat.le_of_eq g13.symm)))).other W21 (Nat.ne_of_lt (Nat.lt_of_lt_of_le V9.lt (Nat.le_of_eq g13.symm)))).ext E25).other W29 (Nat.ne_of_lt (Nat.lt_of_lt_of_le (((V9.ext E13).other W17 (Nat.ne_of_lt (Nat.lt_of_lt_of_le V9.lt (Nat.le_of_eq g13.symm)))).other W21 (Nat.ne_of_lt (Nat.lt_of_lt_of_le V9.lt (Nat.le_of_eq g13.symm)))).lt (Nat.le_of_eq g25.symm)))).other W33 (Nat.ne_of_lt (Nat.lt_of_lt_of_le (((V9.ext E13).other W17 (Nat.ne_of_lt (Nat.lt_of_lt_of_le V9.lt (Nat.le_of_eq g13.symm)))).other W21 (Nat.ne_of_lt (Nat.lt_of_lt_of_le V9.lt (Nat.le_of_eq g13.symm)))).lt (Nat.le_of_eq g25.symm)))).other W37 (Nat.ne_of_lt (Nat.lt_of_lt_of_le (((V9.ext E13).other W17 (Nat.ne_of_lt (Nat.lt_of_lt_of_le V9.lt (Nat.le_of_eq g13.symm)))).other W21 (Nat.ne_of_lt (Nat.lt_of_lt_of_le V9.lt (Nat.le_of_eq g13.symm)))).lt (Nat.le_of_eq g25.symm)))).ext E41).other W45 (Nat.ne_of_lt (Nat.lt_of_lt_of_le (((((((V9.ext E13).other W17 (Nat.ne_of_lt (Nat.lt_of_lt_of_le V9.lt (Nat.le_of_eq g13.symm)))).other W21 (Nat.ne_of_lt (Nat.lt_of_lt_of_le V9.lt (Nat.le_of_eq g13.symm)))).ext E25).other W29 (Nat.ne_of_lt (Nat.lt_of_lt_of_le (((V9.ext E13).other W17 (Nat.ne_of_lt (Nat.lt_of_lt_of_le V9.lt (Nat.le_of_eq g13.symm)))).other W21 (Nat.ne_of_lt (Nat.lt_of_lt_of_le V9.lt (Nat.le_of_eq g13.symm)))).lt (Nat.le_of_eq g25.symm)))).other W33 (Nat.ne_of_lt (Nat.lt_of_lt_of_le (((V9.ext E13).other W17 (Nat.ne_of_lt (Nat.lt_of_lt_of_le V9.lt (Nat.le_of_eq g13.symm)))).other W21 (Nat.ne_of_lt (Nat.lt_of_lt_of_le V9.lt (Nat.le_of_eq g13.symm)))).lt (Nat.le_of_eq g25.symm)))).other W37 (Nat.ne_of_lt (Nat.lt_of_lt_of_le (((V9.ext E13).other W17 (Nat.ne_of_lt (Nat.lt_of_lt_of_le V9.lt (Nat.le_of_eq g13.symm)))).other W21 (Nat.ne_of_lt (Nat.lt_of_lt_of_le V9.lt (Nat.le_of_eq g13.symm)))).lt (Nat.le_of_eq g25.symm)))).lt (Nat.le_of_eq g41.symm)))).other W49 (Nat.ne_of_lt (Nat.lt_of_lt_of_le (((((((V9.ext E13).other W17 (Nat.ne_of_lt (Nat.lt_of_lt_of_le V9.lt (Nat.le_of_eq g13.symm)))).other W21 (Nat.ne_of_lt (Nat.lt_of_lt_of_le V9.lt (Nat.le_of_eq g13.symm)))).ext E25).other W29 (Nat.ne_of_lt (Nat.lt_of_lt_of_le (((V9.ext E13).other W17 (Nat.ne_of_lt (Nat.lt_of_lt_of_le V9.lt (Nat.le_of_eq g13.symm)))).other W21 (Nat.ne_of_lt (Nat.lt_of_lt_of_le V9.lt (Nat.le_of_eq g13.symm)))).lt (Nat.le_of_eq g25.symm)))).other W33 (Nat.ne_of_lt (Nat.lt_of_lt_of_le (((V9.ext E13).other W17 (Nat.ne_of_lt (Nat.lt_of_lt_of_le V9.lt (Nat.le_of_eq g13.symm)))).other W21 (Nat.ne_of_lt (Nat.lt_of_lt_of_le V9.lt (Nat.le_of_eq g13.symm)))).lt (Nat.le_of_eq g25.symm)))).other W37 (Nat.ne_of_lt (Nat.lt_of_lt_of_le (((V9.ext E13).other W17 (Nat.ne_of_lt (Nat.lt_of_lt_of_le V9.lt (Nat.le_of_eq g13.symm)))).other W21 (Nat.ne_of_lt (Nat.lt_of_lt_of_le V9.lt (Nat.le_of_eq g13.symm)))).lt (Nat.le_of_eq g25.symm)))).lt (Nat.le_of_eq g41.symm)))).other W53 (Nat.ne_of_lt (Nat.lt_of_lt_of_le (((((((V9.ext E13).other W17 (Nat.ne_of_lt (Nat.lt_of_lt_of_le V9.lt (Nat.le_of_eq g13.symm)))).other W21 (Nat.ne_of_lt (Nat.lt_of_lt_of_le V9.lt (Nat.le_of_eq g13.symm)))).ext E25).other W29 (Nat.ne_of_lt (Nat.lt_of_lt_of_le (((V9.ext E13).other W17 (Nat.ne_of_lt (Nat.lt_of_lt_of_le V9.lt (Nat.le_of_eq g13.symm)))).other W21 (Nat.ne_of_lt (Nat.lt_of_lt_of_le V9.lt (Nat.le_of_eq g13.symm)))).lt (Nat.le_of_eq g25.symm)))).other W33 (Nat.ne_of_lt (Nat.lt_of_lt_of_le (((V9.ext E13).other W17 (Nat.ne_of_lt (Nat.lt_of_lt_of_le V9.lt (Nat.le_of_eq g13.symm)))).other W21 (Nat.ne_of_lt (Nat.lt_of_lt_of_le V9.lt (Nat.le_of_eq g13.symm)))).lt (Nat.le_of_eq g25.symm)))).other W37 (Nat.ne_of_lt (Nat.lt_of_lt_of_le (((V9.ext E13).other W17 (Nat.ne_of_lt (Nat.lt_of_lt_of_le V9.lt (Nat.le_of_eq g13.symm)))).other W21 (Nat.ne_of_lt (Nat.lt_of_lt_of_le V9.lt (Nat.le_of_eq g13.symm)))).lt (Nat.le_of_eq g25.symm)))).lt (Nat.le_of_eq g41.symm)))).other W57 (Nat.ne_of_lt (Nat.lt_of_lt_of_le (((((((V9.ext E13).other W17 (Nat.ne_of_lt (Nat.lt_of_lt_of_le V9.lt (Nat.le_of_eq g13.symm)))).other W21 (Nat.ne_of_lt (Nat.lt_of_lt_of_le V9.lt (Nat.le_of_eq g13.symm)))).ext E25).other W29 (Nat.ne_of_lt (Nat.lt_of_lt_of_le (((V9.ext E13).other W17 (Nat.ne_of_lt (Nat.lt_of_lt_of_le V9.lt (Nat.le_of_eq g13.symm)))).other W21 (Nat.ne_of_lt (Nat.lt_of_lt_of_le V9.lt (Nat.le_of_eq g13.symm)))).lt (Nat.le_of_eq g25.symm)))).other W33 (Nat.ne_of_lt (Nat.lt_of_lt_of_le (((V9.ext E13).other W17 (Nat.ne_of_lt (Nat.lt_of_lt_of_le V9.lt (Nat.le_of_eq g13.symm)))).other W21 (Nat.ne_of_lt (Nat.lt_of_lt_of_le V9.lt (Nat.le_of_eq g13.symm)))).lt (Nat.le_of_eq g25.symm)))).other W37 (Nat.ne_of_lt (Nat.lt_of_lt_of_le (((V9.ext E13).other W17 (Nat.ne_of_lt (Nat.lt_of_lt_of_le V9.lt (Nat.le_of_eq g13.symm)))).other W21 (Nat.ne_of_lt (Nat.lt_of_lt_of_le V9.lt (Nat.le_of_eq g13.symm)))).lt (Nat.le_of_eq g25.symm)))).lt (Nat.le_of_eq g41.symm)))).ext E61)
  have f66 := (((((((((((((((pO.ext E5).wr W9 G5).ext E13).wr W17 G13).wr W21 G13).ext E25).wr W29 G25).wr W33 G25).wr W37 G25).ext E41).wr W45 G41).wr W49 G41).wr W53 G41).wr W57 G41).ext E61)
  obtain ⟨_, _, ⟨T67, L67, k67, n67⟩, -, X67, ⟨Lc67, hQ67, l67, y67, z67⟩, st67⟩ := X61.specialBack hx (y := (⟨"java/lang/String", "<init>", "([C)V"⟩ : MethodName)) rfl hown (mvT hZ (hw _ (List.mem_of_getElem? (i := 9) rfl))) (mvT hZ (hw _ (List.mem_of_getElem? (i := 10) rfl))) (mvT hZ (hw _ (List.mem_of_getElem? (i := 11) rfl))) (by decide) (StrChars.Road.backV (W := 1) hZ hws (kI := 4) (hw _ (List.mem_of_getElem? (i := 7) rfl)) (cs := ([r_1] : List Int32)) (bs := (([r_1] : List Int32)).map (fun c => c.toInt8.toInt32)) (n := 1) G61 f64 A61 D61_value D61_coder f65 (pS_COMPACT_STRINGS.ext f66.2) pP5 rfl rfl (by decide) (by decide) hp1 rfl (by decide) (by decide)) (g := (mkF m 145 #[.val (.int p0), .val (.int p1), .val (.int p2), .val (.int p3), .val (.int p4), .val (.int p5), .val (.int r_1), .val (.int r_2), .val (.int r_3), .val (.int r_4), .val (.int (1 : Int32)), .val (.ref b5), .val (.ref b13), .val (.ref b25), .val (.ref b41), .val (.ref b5), .unset, .unset, .unset, .unset] [(.ref b5), (.ref b61), (.ref b61)])) rfl (by rw [hml]; rfl) (Steps.refl _) (a := b61) (argsL := [(.ref b5)]) (rest := [(.ref b61)]) (lenOf pd___C_V rfl) rfl (by show 2 * 0 + _ ≤ _; exact Nat.le_of_eq rfl) (hb hby at_145) (fun _ _ => ⟨rfl, e61, (by decide : 5 + 1 ≤ _), (by decide : 14 + 1 ≤ _)⟩)
  dsimp only [Pt.U, Pt.locs, Pt.cells, Pt.slots] at X67 l67 y67 z67 st67 hQ67
  try dsimp only [Nat.reduceAdd] at y67 z67
  rw [l67, y67, z67] at X67
  obtain ⟨rfl, Nq67, Kq67, q67_E, q67_c, t67, kb67, q67_g, q67_b, q67_n, q67_v, q67_V⟩ := hQ67
  have N67 := Fr.app N57 Nq67
  have Sa68 : ∀ y ∈ [b61], Safe Z own_EL s.vm h61 y := (sfS SF61 sf0)
  have CH68 := CH62.keep Kq67 Sa68
  have CR68 := CHr.trans CR62 (CHr.keep Kq67 Sa68 CH62)
  have K69 : Keep h0 T67.heap [] := K63.trans Kq67 (allS (Or.inr B61) all0)
  have Bf70 : h0.size ≤ t67 := Nat.le_trans K63.1 q67_b
  refine own_tr st67 ?_
  show own_Go p e below T67 (mkF m 148 #[.val (.int p0), .val (.int p1), .val (.int p2), .val (.int p3), .val (.int p4), .val (.int p5), .val (.int r_1), .val (.int r_2), .val (.int r_3), .val (.int r_4), .val (.int (1 : Int32)), .val (.ref b5), .val (.ref b13), .val (.ref b25), .val (.ref b41), .val (.ref b5), .unset, .unset, .unset, .unset] [(.ref b61)]) _
  refine own_st (fun t_ k_ => XS.astore X67.here hx rfl (hb hby at_148) rfl rfl (l' := #[.val (.int p0), .val (.int p1), .val (.int p2), .val (.int p3), .val (.int p4), .val (.int p5), .val (.int r_1), .val (.int r_2), .val (.int r_3), .val (.int r_4), .val (.int (1 : Int32)), .val (.ref b5), .val (.ref b13), .val (.ref b25), .val (.ref b41), .val (.ref b5), .val (.ref b61), .unset, .unset, .unset]) rfl k_) ?_
  show own_Go p e below T67 (mkF m 150 #[.val (.int p0), .val (.int p1), .val (.int p2), .val (.int p3), .val (.int p4), .val (.int p5), .val (.int r_1), .val (.int r_2), .val (.int r_3), .val (.int r_4), .val (.int (1 : Int32)), .val (.ref b5), .val (.ref b13), .val (.ref b25), .val (.ref b41), .val (.ref b5), .val (.ref b61), .unset, .unset, .unset] []) _
  refine own_st (fun t_ k_ => XS.iload X67.here hx rfl (hb hby at_150) rfl k_) ?_
  show own_Go p e below T67 (mkF m 152 #[.val (.int p0), .val (.int p1), .val (.int p2), .val (.int p3), .val (.int p4), .val (.int p5), .val (.int r_1), .val (.int r_2), .val (.int r_3), .val (.int r_4), .val (.int (1 : Int32)), .val (.ref b5), .val (.ref b13), .val (.ref b25), .val (.ref b41), .val (.ref b5), .val (.ref b61), .unset, .unset, .unset] [(.int p5)]) _
  have f71 := (Nat.le_trans f64 Kq67.1)
  obtain ⟨_, _, ⟨T72, L72, k72, n72⟩, -, X72, ⟨Lc72, hQ72, l72, y72, z72⟩, st72⟩ := Jvm.LawKit.callS X67 hx (y := (⟨"com/example/faithful_courier/faithfulcourier/core/NameOfPinLaw", "allowed", "(I)C"⟩ : MethodName)) hown (mvT hZ (hw _ (List.mem_of_getElem? (i := 0) rfl))) (mvT hZ (hw _ (List.mem_of_getElem? (i := 1) rfl))) (mvT hZ (hw _ (List.mem_of_getElem? (i := 2) rfl))) (mvT hZ (hw _ (List.mem_of_getElem? (i := 3) rfl))) (by decide) (backOf (W := 0) (rmAl l Z a0 hw [] p5 T67.heap n0 f71 ) hZ (hw _ (List.mem_of_getElem? (i := 3) rfl)) (hw _ (List.mem_of_getElem? (i := 2) rfl)) (by decide) (by decide)) (g := (mkF m 152 #[.val (.int p0), .val (.int p1), .val (.int p2), .val (.int p3), .val (.int p4), .val (.int p5), .val (.int r_1), .val (.int r_2), .val (.int r_3), .val (.int r_4), .val (.int (1 : Int32)), .val (.ref b5), .val (.ref b13), .val (.ref b25), .val (.ref b41), .val (.ref b5), .val (.ref b61), .unset, .unset, .unset] [(.int p5)])) rfl (by rw [hml]; rfl) (argsL := [(.int p5)]) (rest := []) (lenOf pd__I_C rfl) rfl (by show 2 * 0 + _ ≤ _; exact Nat.le_of_eq rfl) (hb hby at_152) (fun _ _ => ⟨rfl, rfl, (by decide : 6 + 0 ≤ _), (by decide : 15 + 0 ≤ _)⟩)
  dsimp only [Pt.U, Pt.locs, Pt.cells, Pt.slots] at X72 l72 y72 z72 st72 hQ72
  try dsimp only [Nat.reduceAdd] at y72 z72
  rw [l72, y72, z72] at X72
  obtain ⟨r_72, rfl, Nq72, eH72, q72_0⟩ := hQ72
  have N72 := Fr.app N67 Nq72
  refine own_st st72 ?_
  show own_Go p e below T72 (mkF m 155 #[.val (.int p0), .val (.int p1), .val (.int p2), .val (.int p3), .val (.int p4), .val (.int p5), .val (.int r_1), .val (.int r_2), .val (.int r_3), .val (.int r_4), .val (.int (1 : Int32)), .val (.ref b5), .val (.ref b13), .val (.ref b25), .val (.ref b41), .val (.ref b5), .val (.ref b61), .unset, .unset, .unset] [(.int r_72)]) _
  have f73 := (f66.keep Kq67 (allS G61 all0))
  obtain ⟨_, _, ⟨T74, L74, k74, n74⟩, -, X74, ⟨Lc74, hQ74, l74, y74, z74⟩, st74⟩ := Jvm.LawKit.callS X72 hx (y := (⟨"java/lang/String", "valueOf", "(C)Ljava/lang/String;"⟩ : MethodName)) hown (mvT hZ (hw _ (List.mem_of_getElem? (i := 35) rfl))) (mvT hZ (hw _ (List.mem_of_getElem? (i := 36) rfl))) (mvT hZ (hw _ (List.mem_of_getElem? (i := 8) rfl))) (mvT hZ (hw _ (List.mem_of_getElem? (i := 37) rfl))) (by decide) (backOf (W := 0) (rmVo l Z a0 hw [] r_72 zc T67.heap n0 f71 (own_al255 q72_0).2 pS_COMPACT_STRINGS pP5 f73) hZ (hw _ (List.mem_of_getElem? (i := 37) rfl)) (hw _ (List.mem_of_getElem? (i := 8) rfl)) (by decide) (by decide)) (g := (mkF m 155 #[.val (.int p0), .val (.int p1), .val (.int p2), .val (.int p3), .val (.int p4), .val (.int p5), .val (.int r_1), .val (.int r_2), .val (.int r_3), .val (.int r_4), .val (.int (1 : Int32)), .val (.ref b5), .val (.ref b13), .val (.ref b25), .val (.ref b41), .val (.ref b5), .val (.ref b61), .unset, .unset, .unset] [(.int r_72)])) rfl (by rw [hml]; rfl) (argsL := [(.int r_72)]) (rest := []) (lenOf pd__C_Ljava_lang_String_ rfl) rfl (by show 2 * 0 + _ ≤ _; exact Nat.le_of_eq rfl) (hb hby at_155) (fun _ _ => ⟨rfl, eH72, (by decide : 6 + 2 ≤ _), (by decide : 15 + 5 ≤ _)⟩)
  dsimp only [Pt.U, Pt.locs, Pt.cells, Pt.slots] at X74 l74 y74 z74 st74 hQ74
  try dsimp only [Nat.reduceAdd] at y74 z74
  rw [l74, y74, z74] at X74
  obtain ⟨x_74, t_74, kb_74, rfl, Nq74, Kq74, q74_0, q74_1, q74_2, q74_3, q74_4, q74_5, q74_6, q74_7⟩ := hQ74
  have N74 := Fr.app N72 Nq74
  have CH75 := CH68.keep Kq74 sf0
  have CR75 := CHr.trans CR68 (CHr.keep Kq74 sf0 CH68)
  have K76 : Keep h0 T74.heap [] := K69.trans Kq74 all0
  have Bf77 : h0.size ≤ x_74 := Nat.le_trans K69.1 q74_4
  have Bf78 : h0.size ≤ t_74 := Nat.le_trans K69.1 q74_6
  refine own_st st74 ?_
  show own_Go p e below T74 (mkF m 158 #[.val (.int p0), .val (.int p1), .val (.int p2), .val (.int p3), .val (.int p4), .val (.int p5), .val (.int r_1), .val (.int r_2), .val (.int r_3), .val (.int r_4), .val (.int (1 : Int32)), .val (.ref b5), .val (.ref b13), .val (.ref b25), .val (.ref b41), .val (.ref b5), .val (.ref b61), .unset, .unset, .unset] [(.ref x_74)]) _
  have hp2 : ∀ c ∈ ([r_72] : List Int32), ¬ c < 0 ∧ ¬ (255 : Int32) < c := by intro c hc; simp only [List.mem_cons, List.not_mem_nil, or_false] at hc; subst hc; exact own_al255 q72_0
  refine own_st (fun t_ k_ => XS.astore X74.here hx rfl (hb hby at_158) rfl rfl (l' := #[.val (.int p0), .val (.int p1), .val (.int p2), .val (.int p3), .val (.int p4), .val (.int p5), .val (.int r_1), .val (.int r_2), .val (.int r_3), .val (.int r_4), .val (.int (1 : Int32)), .val (.ref b5), .val (.ref b13), .val (.ref b25), .val (.ref b41), .val (.ref b5), .val (.ref b61), .val (.ref x_74), .unset, .unset]) rfl k_) ?_
  show own_Go p e below T74 (mkF m 160 #[.val (.int p0), .val (.int p1), .val (.int p2), .val (.int p3), .val (.int p4), .val (.int p5), .val (.int r_1), .val (.int r_2), .val (.int r_3), .val (.int r_4), .val (.int (1 : Int32)), .val (.ref b5), .val (.ref b13), .val (.ref b25), .val (.ref b41), .val (.ref b5), .val (.ref b61), .val (.ref x_74), .unset, .unset] []) _
  refine own_st (fun t_ k_ => XS.aload X74.here hx rfl (hb hby at_160) rfl rfl k_) ?_
  show own_Go p e below T74 (mkF m 162 #[.val (.int p0), .val (.int p1), .val (.int p2), .val (.int p3), .val (.int p4), .val (.int p5), .val (.int r_1), .val (.int r_2), .val (.int r_3), .val (.int r_4), .val (.int (1 : Int32)), .val (.ref b5), .val (.ref b13), .val (.ref b25), .val (.ref b41), .val (.ref b5), .val (.ref b61), .val (.ref x_74), .unset, .unset] [(.ref b61)]) _
  have f79 := (Nat.le_trans f71 Kq74.1)
  have f80 := (q67_E.keep Kq74)
  have f81 := (q67_v.keep Kq74 nin0)
  have f82 := (q67_c.keep Kq74 nin0)
  have f83 := (q67_V.keep Kq74 nin0)
  have f84 := (f73.keep Kq74 all0)
  have f86 := (Nat.le_trans (Nat.le_trans (Nat.le_trans (Nat.le_trans (Nat.le_trans (Nat.le_trans (Nat.le_trans (Nat.le_trans (Nat.le_trans (Nat.le_trans (Nat.le_trans (Nat.le_trans (Nat.le_trans (Nat.le_trans (Nat.le_trans (Nat.le_trans (Nat.le_trans hK0 E5.1) (Keep.of_wr W9).1) E13.1) (Keep.of_wr W17).1) (Keep.of_wr W21).1) E25.1) (Keep.of_wr W29).1) (Keep.of_wr W33).1) (Keep.of_wr W37).1) E41.1) (Keep.of_wr W45).1) (Keep.of_wr W49).1) (Keep.of_wr W53).1) (Keep.of_wr W57).1) E61.1) Kq67.1) Kq74.1)
  obtain ⟨_, _, ⟨T85, L85, k85, n85⟩, -, Xa85, hSa85, hGa85, ⟨Lc85, hQ85, l85, y85, z85, A85⟩, st85⟩ := Jvm.RoadKit.callSS X74 hx (y := (⟨"com/example/faithful_courier/faithfulcourier/core/Name", "of", "(Ljava/lang/String;)Lcom/example/faithful_courier/faithfulcourier/core/Name;"⟩ : MethodName)) hown (mvT hZ (hw _ (List.mem_of_getElem? (i := 49) rfl))) (mvT hZ (hw _ (List.mem_of_getElem? (i := 50) rfl))) (mvT hZ (hw _ (List.mem_of_getElem? (i := 51) rfl))) (mvT hZ (hw _ (List.mem_of_getElem? (i := 52) rfl))) (by decide) (backOfSH (W := 0) (rmOf1 l Z a0 hw [] b61 t67 kb67 r_1 zc fm T74.heap n0 f79 f80 f81 f82 f83 hp1 q1_0 pS_COMPACT_STRINGS pP5 pS_SIOOBE_FORMATTER rfm f84) hZ (hw _ (List.mem_of_getElem? (i := 52) rfl)) (hw _ (List.mem_of_getElem? (i := 51) rfl)) (by decide) (by decide) hEL CH75) (g := (mkF m 162 #[.val (.int p0), .val (.int p1), .val (.int p2), .val (.int p3), .val (.int p4), .val (.int p5), .val (.int r_1), .val (.int r_2), .val (.int r_3), .val (.int r_4), .val (.int (1 : Int32)), .val (.ref b5), .val (.ref b13), .val (.ref b25), .val (.ref b41), .val (.ref b5), .val (.ref b61), .val (.ref x_74), .unset, .unset] [(.ref b61)])) rfl (by rw [hml]; rfl) (argsL := [(.ref b61)]) (rest := []) (lenOf pd__Ljava_lang_String__Lcom_example_faithful_courier_faithfulcourier_core_Name_ rfl) rfl (by show 2 * 0 + _ ≤ _; exact Nat.le_of_eq rfl) (hb hby at_162) (fun _ _ => ⟨rfl, rfl, (by decide : 8 + 3 ≤ _), (by decide : 20 + 21 ≤ _)⟩)
  dsimp only [Pt.U, Pt.locs, Pt.cells, Pt.slots] at Xa85 hSa85 hGa85 l85 y85 z85 A85 st85 hQ85
  try dsimp only [Nat.reduceAdd] at y85 z85
  rw [l85, y85, z85] at Xa85
  obtain ⟨X85, hS, hZ, hown⟩ := rebS hS f86 Xa85 hSa85 hGa85 hZ hown
  obtain ⟨b_85, rfl, Nq85, Kq85, q85_0, q85_1, q85_2, q85_3⟩ := hQ85
  have N85 := Fr.app N74 Nq85
  have CH87 := A85.1
  have CR87 := CHr.trans CR75 (A85)
  have K88 : Keep h0 T85.heap [] := K76.trans Kq85 all0
  have hK85 : T85.heap.size ≤ T85.heap.size := Nat.le_refl _
  have Bf89 : h0.size ≤ b_85 := Nat.le_trans K76.1 q85_2
  refine own_tr st85 ?_
  show own_Go p e below T85 (mkF m 165 #[.val (.int p0), .val (.int p1), .val (.int p2), .val (.int p3), .val (.int p4), .val (.int p5), .val (.int r_1), .val (.int r_2), .val (.int r_3), .val (.int r_4), .val (.int (1 : Int32)), .val (.ref b5), .val (.ref b13), .val (.ref b25), .val (.ref b41), .val (.ref b5), .val (.ref b61), .val (.ref x_74), .unset, .unset] [(.ref b_85)]) _
  refine own_st (fun t_ k_ => XS.astore X85.here hx rfl (hb hby at_165) rfl rfl (l' := #[.val (.int p0), .val (.int p1), .val (.int p2), .val (.int p3), .val (.int p4), .val (.int p5), .val (.int r_1), .val (.int r_2), .val (.int r_3), .val (.int r_4), .val (.int (1 : Int32)), .val (.ref b5), .val (.ref b13), .val (.ref b25), .val (.ref b41), .val (.ref b5), .val (.ref b61), .val (.ref x_74), .val (.ref b_85), .unset]) rfl k_) ?_
  show own_Go p e below T85 (mkF m 167 #[.val (.int p0), .val (.int p1), .val (.int p2), .val (.int p3), .val (.int p4), .val (.int p5), .val (.int r_1), .val (.int r_2), .val (.int r_3), .val (.int r_4), .val (.int (1 : Int32)), .val (.ref b5), .val (.ref b13), .val (.ref b25), .val (.ref b41), .val (.ref b5), .val (.ref b61), .val (.ref x_74), .val (.ref b_85), .unset] []) _
  refine own_st (fun t_ k_ => XS.aload X85.here hx rfl (hb hby at_167) rfl rfl k_) ?_
  show own_Go p e below T85 (mkF m 169 #[.val (.int p0), .val (.int p1), .val (.int p2), .val (.int p3), .val (.int p4), .val (.int p5), .val (.int r_1), .val (.int r_2), .val (.int r_3), .val (.int r_4), .val (.int (1 : Int32)), .val (.ref b5), .val (.ref b13), .val (.ref b25), .val (.ref b41), .val (.ref b5), .val (.ref b61), .val (.ref x_74), .val (.ref b_85), .unset] [(.ref x_74)]) _
  have f90 := (Nat.le_trans f79 Kq85.1)
  have f91 := (q74_0.keep Kq85)
  have f92 := (q74_1.keep Kq85 nin0)
  have f93 := (q74_2.keep Kq85 nin0)
  have f94 := (q74_3.keep Kq85 nin0)
  have f95 := (f84.keep Kq85 all0)
  obtain ⟨_, _, ⟨T96, L96, k96, n96⟩, -, Xa96, hSa96, hGa96, ⟨Lc96, hQ96, l96, y96, z96, A96⟩, st96⟩ := Jvm.RoadKit.callSS X85 hx (y := (⟨"com/example/faithful_courier/faithfulcourier/core/Name", "of", "(Ljava/lang/String;)Lcom/example/faithful_courier/faithfulcourier/core/Name;"⟩ : MethodName)) hown (mvT hZ (hw _ (List.mem_of_getElem? (i := 49) rfl))) (mvT hZ (hw _ (List.mem_of_getElem? (i := 50) rfl))) (mvT hZ (hw _ (List.mem_of_getElem? (i := 51) rfl))) (mvT hZ (hw _ (List.mem_of_getElem? (i := 52) rfl))) (by decide) (backOfSH (W := 0) (rmOf1 l Z a0 hw [] x_74 t_74 kb_74 r_72 zc fm T85.heap n0 f90 f91 f92 f93 f94 hp2 q72_0 pS_COMPACT_STRINGS pP5 pS_SIOOBE_FORMATTER rfm f95) hZ (hw _ (List.mem_of_getElem? (i := 52) rfl)) (hw _ (List.mem_of_getElem? (i := 51) rfl)) (by decide) (by decide) hEL CH87) (g := (mkF m 169 #[.val (.int p0), .val (.int p1), .val (.int p2), .val (.int p3), .val (.int p4), .val (.int p5), .val (.int r_1), .val (.int r_2), .val (.int r_3), .val (.int r_4), .val (.int (1 : Int32)), .val (.ref b5), .val (.ref b13), .val (.ref b25), .val (.ref b41), .val (.ref b5), .val (.ref b61), .val (.ref x_74), .val (.ref b_85), .unset] [(.ref x_74)])) rfl (by rw [hml]; rfl) (argsL := [(.ref x_74)]) (rest := []) (lenOf pd__Ljava_lang_String__Lcom_example_faithful_courier_faithfulcourier_core_Name_ rfl) rfl (by show 2 * 0 + _ ≤ _; exact Nat.le_of_eq rfl) (hb hby at_169) (fun _ _ => ⟨rfl, rfl, (by decide : 11 + 3 ≤ _), (by decide : 41 + 21 ≤ _)⟩)
  dsimp only [Pt.U, Pt.locs, Pt.cells, Pt.slots] at Xa96 hSa96 hGa96 l96 y96 z96 A96 st96 hQ96
  try dsimp only [Nat.reduceAdd] at y96 z96
  rw [l96, y96, z96] at Xa96
  obtain ⟨X96, hS, hZ, hown⟩ := rebS hS hK85 Xa96 hSa96 hGa96 hZ hown
  obtain ⟨b_96, rfl, Nq96, Kq96, q96_0, q96_1, q96_2, q96_3⟩ := hQ96
  have N96 := Fr.app N85 Nq96
  have CH97 := A96.1
  have CR97 := CHr.trans CR87 (A96)
  have K98 : Keep h0 T96.heap [] := K88.trans Kq96 all0
  have hK96 : T96.heap.size ≤ T96.heap.size := Nat.le_refl _
  have Bf99 : h0.size ≤ b_96 := Nat.le_trans K88.1 q96_2
  refine own_tr st96 ?_
  show own_Go p e below T96 (mkF m 172 #[.val (.int p0), .val (.int p1), .val (.int p2), .val (.int p3), .val (.int p4), .val (.int p5), .val (.int r_1), .val (.int r_2), .val (.int r_3), .val (.int r_4), .val (.int (1 : Int32)), .val (.ref b5), .val (.ref b13), .val (.ref b25), .val (.ref b41), .val (.ref b5), .val (.ref b61), .val (.ref x_74), .val (.ref b_85), .unset] [(.ref b_96)]) _
  refine own_st (fun t_ k_ => XS.astore X96.here hx rfl (hb hby at_172) rfl rfl (l' := #[.val (.int p0), .val (.int p1), .val (.int p2), .val (.int p3), .val (.int p4), .val (.int p5), .val (.int r_1), .val (.int r_2), .val (.int r_3), .val (.int r_4), .val (.int (1 : Int32)), .val (.ref b5), .val (.ref b13), .val (.ref b25), .val (.ref b41), .val (.ref b5), .val (.ref b61), .val (.ref x_74), .val (.ref b_85), .val (.ref b_96)]) rfl k_) ?_
  show own_Go p e below T96 (mkF m 174 #[.val (.int p0), .val (.int p1), .val (.int p2), .val (.int p3), .val (.int p4), .val (.int p5), .val (.int r_1), .val (.int r_2), .val (.int r_3), .val (.int r_4), .val (.int (1 : Int32)), .val (.ref b5), .val (.ref b13), .val (.ref b25), .val (.ref b41), .val (.ref b5), .val (.ref b61), .val (.ref x_74), .val (.ref b_85), .val (.ref b_96)] []) _
  refine own_st (fun t_ k_ => XS.aload X96.here hx rfl (hb hby at_174) rfl rfl k_) ?_
  show own_Go p e below T96 (mkF m 176 #[.val (.int p0), .val (.int p1), .val (.int p2), .val (.int p3), .val (.int p4), .val (.int p5), .val (.int r_1), .val (.int r_2), .val (.int r_3), .val (.int r_4), .val (.int (1 : Int32)), .val (.ref b5), .val (.ref b13), .val (.ref b25), .val (.ref b41), .val (.ref b5), .val (.ref b61), .val (.ref x_74), .val (.ref b_85), .val (.ref b_96)] [(.ref b_85)]) _
  have f100 := (Nat.le_trans f90 Kq96.1)
  have f101 := (q85_1.keep Kq96 nin0)
  have f103 := (q85_0.keep Kq96)
  obtain ⟨cq102, kq102, qa102, qb102, qc102⟩ := isOf hZ rfl f103
  obtain ⟨_, _, ⟨T102, L102, k102, n102⟩, -, X102, ⟨Lc102, hQ102, l102, y102, z102⟩, st102⟩ := X96.virtualBack hx (y := (⟨"com/example/faithful_courier/faithfulcourier/core/Name", "toString", "()Ljava/lang/String;"⟩ : MethodName)) (z := (⟨"com/example/faithful_courier/faithfulcourier/core/Name", "toString", "()Ljava/lang/String;"⟩ : MethodName)) hown (mvT hZ (hw _ (List.mem_of_getElem? (i := 107) rfl))) (mvT hZ (hw _ (List.mem_of_getElem? (i := 108) rfl))) (notFace_of_selects (args := #[]) (mvT hZ (hw _ (List.mem_of_getElem? (i := 110) rfl)))) (mvT hZ (hw _ (List.mem_of_getElem? (i := 110) rfl))) (mvT hZ (hw _ (List.mem_of_getElem? (i := 109) rfl))) (by decide) (backOf (W := 0) (rmTs l Z a0 hw [] b_85 b61 T96.heap n0 f100 f101) hZ (hw _ (List.mem_of_getElem? (i := 111) rfl)) (hw _ (List.mem_of_getElem? (i := 51) rfl)) (by decide) (by decide)) qa102 qc102 (g := (mkF m 176 #[.val (.int p0), .val (.int p1), .val (.int p2), .val (.int p3), .val (.int p4), .val (.int p5), .val (.int r_1), .val (.int r_2), .val (.int r_3), .val (.int r_4), .val (.int (1 : Int32)), .val (.ref b5), .val (.ref b13), .val (.ref b25), .val (.ref b41), .val (.ref b5), .val (.ref b61), .val (.ref x_74), .val (.ref b_85), .val (.ref b_96)] [(.ref b_85)])) rfl (by rw [hml]; rfl) (Steps.refl _) (argsL := []) (rest := []) (lenOf pd___Ljava_lang_String_ rfl) rfl (by show 2 * 0 + _ ≤ _; exact Nat.le_of_eq rfl) (hb hby at_176) (fun _ _ => ⟨rfl, rfl, (by decide : 14 + 0 ≤ _), (by decide : 62 + 0 ≤ _)⟩)
  dsimp only [Pt.U, Pt.locs, Pt.cells, Pt.slots] at X102 l102 y102 z102 st102 hQ102
  try dsimp only [Nat.reduceAdd] at y102 z102
  rw [l102, y102, z102] at X102
  obtain ⟨rfl, Nq102, eH102⟩ := hQ102
  have N102 := Fr.app N96 Nq102
  refine own_tr st102 ?_
  show own_Go p e below T102 (mkF m 179 #[.val (.int p0), .val (.int p1), .val (.int p2), .val (.int p3), .val (.int p4), .val (.int p5), .val (.int r_1), .val (.int r_2), .val (.int r_3), .val (.int r_4), .val (.int (1 : Int32)), .val (.ref b5), .val (.ref b13), .val (.ref b25), .val (.ref b41), .val (.ref b5), .val (.ref b61), .val (.ref x_74), .val (.ref b_85), .val (.ref b_96)] [(.ref b61)]) _
  refine own_st (fun t_ k_ => XS.aload X102.here hx rfl (hb hby at_179) rfl rfl k_) ?_
  show own_Go p e below T102 (mkF m 181 #[.val (.int p0), .val (.int p1), .val (.int p2), .val (.int p3), .val (.int p4), .val (.int p5), .val (.int r_1), .val (.int r_2), .val (.int r_3), .val (.int r_4), .val (.int (1 : Int32)), .val (.ref b5), .val (.ref b13), .val (.ref b25), .val (.ref b41), .val (.ref b5), .val (.ref b61), .val (.ref x_74), .val (.ref b_85), .val (.ref b_96)] [(.ref b61), (.ref b61)]) _
  have hcd104 : StrChars.Road.CodA ([r_1] : List Int32) 0 (1 : Int32) ((([r_1] : List Int32).map (fun c => c.toInt8.toInt32)).map Value.int) := StrChars.Road.codOf rfl (fun x hx => (hp1 x hx).2)
  have hbd104 : ∀ x ∈ ([r_1] : List Int32), ¬ x < 0 ∧ ¬ (65535 : Int32) < x := own_up _ hp1
  have f105 := ((f80.keep Kq85).keep Kq96)
  have f106 := ((f81.keep Kq85 nin0).keep Kq96 nin0)
  have f107 := ((f82.keep Kq85 nin0).keep Kq96 nin0)
  have f108 := ((f83.keep Kq85 nin0).keep Kq96 nin0)
  have f109 := (f95.keep Kq96 all0)
  obtain ⟨cq110, kq110, qa110, qb110, qc110⟩ := isOf hZ eH102 f105
  obtain ⟨_, _, ⟨T110, L110, k110, n110⟩, -, X110, ⟨Lc110, hQ110, l110, y110, z110⟩, st110⟩ := X102.virtualBack hx (y := (⟨"java/lang/String", "equals", "(Ljava/lang/Object;)Z"⟩ : MethodName)) (z := (⟨"java/lang/String", "equals", "(Ljava/lang/Object;)Z"⟩ : MethodName)) hown (mvT hZ (hw _ (List.mem_of_getElem? (i := 112) rfl))) (mvT hZ (hw _ (List.mem_of_getElem? (i := 113) rfl))) (notFace_of_selects (args := #[]) (mvT hZ (hw _ (List.mem_of_getElem? (i := 115) rfl)))) (mvT hZ (hw _ (List.mem_of_getElem? (i := 115) rfl))) (mvT hZ (hw _ (List.mem_of_getElem? (i := 114) rfl))) (by decide) (StrChars.Road.eqW (W := 0) hZ heq (kI := 4) (hw _ (List.mem_of_getElem? (i := 7) rfl)) f105 f106 f107 f108 hcd104 hbd104 (Nat.le_of_ble_eq_true rfl) f105 f106 f107 f108 hcd104 hbd104 (Nat.le_of_ble_eq_true rfl) (pS_COMPACT_STRINGS.ext f109.2) pP5 (by decide) (by decide)) qa110 qc110 (g := (mkF m 181 #[.val (.int p0), .val (.int p1), .val (.int p2), .val (.int p3), .val (.int p4), .val (.int p5), .val (.int r_1), .val (.int r_2), .val (.int r_3), .val (.int r_4), .val (.int (1 : Int32)), .val (.ref b5), .val (.ref b13), .val (.ref b25), .val (.ref b41), .val (.ref b5), .val (.ref b61), .val (.ref x_74), .val (.ref b_85), .val (.ref b_96)] [(.ref b61), (.ref b61)])) rfl (by rw [hml]; rfl) (Steps.refl _) (argsL := [(.ref b61)]) (rest := []) (lenOf pd__Ljava_lang_Object__Z rfl) rfl (by show 2 * 0 + _ ≤ _; exact Nat.le_of_eq rfl) (hb hby at_181) (fun _ _ => ⟨rfl, eH102, (by decide : 14 + 0 ≤ _), (by decide : 62 + 0 ≤ _)⟩)
  dsimp only [Pt.U, Pt.locs, Pt.cells, Pt.slots] at X110 l110 y110 z110 st110 hQ110
  try dsimp only [Nat.reduceAdd] at y110 z110
  rw [l110, y110, z110] at X110
  obtain ⟨hcase110, rfl, eH110⟩ := hQ110
  have N110 := Fr.app N102 (Fr.nil n0)
  have hv110 : _ = some (Value.int 1) := hcase110.elim (fun q => q.1) (fun q => absurd rfl q.2)
  subst hv110
  refine own_tr st110 ?_
  show own_Go p e below T110 (mkF m 184 #[.val (.int p0), .val (.int p1), .val (.int p2), .val (.int p3), .val (.int p4), .val (.int p5), .val (.int r_1), .val (.int r_2), .val (.int r_3), .val (.int r_4), .val (.int (1 : Int32)), .val (.ref b5), .val (.ref b13), .val (.ref b25), .val (.ref b41), .val (.ref b5), .val (.ref b61), .val (.ref x_74), .val (.ref b_85), .val (.ref b_96)] [(.int (1 : Int32))]) _
  refine own_st (fun t_ k_ => XS.ifNo X110.here hx rfl (hb hby at_184) rfl (by decide) k_) ?_
  show own_Go p e below T110 (mkF m 187 #[.val (.int p0), .val (.int p1), .val (.int p2), .val (.int p3), .val (.int p4), .val (.int p5), .val (.int r_1), .val (.int r_2), .val (.int r_3), .val (.int r_4), .val (.int (1 : Int32)), .val (.ref b5), .val (.ref b13), .val (.ref b25), .val (.ref b41), .val (.ref b5), .val (.ref b61), .val (.ref x_74), .val (.ref b_85), .val (.ref b_96)] []) _
  refine own_st (fun t_ k_ => XS.aload X110.here hx rfl (hb hby at_187) rfl rfl k_) ?_
  show own_Go p e below T110 (mkF m 189 #[.val (.int p0), .val (.int p1), .val (.int p2), .val (.int p3), .val (.int p4), .val (.int p5), .val (.int r_1), .val (.int r_2), .val (.int r_3), .val (.int r_4), .val (.int (1 : Int32)), .val (.ref b5), .val (.ref b13), .val (.ref b25), .val (.ref b41), .val (.ref b5), .val (.ref b61), .val (.ref x_74), .val (.ref b_85), .val (.ref b_96)] [(.ref b_85)]) _
  refine own_st (fun t_ k_ => XS.aload X110.here hx rfl (hb hby at_189) rfl rfl k_) ?_
  show own_Go p e below T110 (mkF m 191 #[.val (.int p0), .val (.int p1), .val (.int p2), .val (.int p3), .val (.int p4), .val (.int p5), .val (.int r_1), .val (.int r_2), .val (.int r_3), .val (.int r_4), .val (.int (1 : Int32)), .val (.ref b5), .val (.ref b13), .val (.ref b25), .val (.ref b41), .val (.ref b5), .val (.ref b61), .val (.ref x_74), .val (.ref b_85), .val (.ref b_96)] [(.ref b_96), (.ref b_85)]) _
  have f111 := (f91.keep Kq96)
  have f112 := (f92.keep Kq96 nin0)
  have f113 := (f93.keep Kq96 nin0)
  have f114 := (f94.keep Kq96 nin0)
  obtain ⟨cq115, kq115, qa115, qb115, qc115⟩ := isOf hZ eH110 f103
  obtain ⟨_, _, ⟨T115, L115, k115, n115⟩, -, X115, ⟨Lc115, hQ115, l115, y115, z115⟩, st115⟩ := X110.virtualBack hx (y := (⟨"com/example/faithful_courier/faithfulcourier/core/Name", "equals", "(Ljava/lang/Object;)Z"⟩ : MethodName)) (z := (⟨"com/example/faithful_courier/faithfulcourier/core/Name", "equals", "(Ljava/lang/Object;)Z"⟩ : MethodName)) hown (mvT hZ (hw _ (List.mem_of_getElem? (i := 117) rfl))) (mvT hZ (hw _ (List.mem_of_getElem? (i := 118) rfl))) (notFace_of_selects (args := #[]) (mvT hZ (hw _ (List.mem_of_getElem? (i := 120) rfl)))) (mvT hZ (hw _ (List.mem_of_getElem? (i := 120) rfl))) (mvT hZ (hw _ (List.mem_of_getElem? (i := 119) rfl))) (by decide) (backOf (W := 0) (rmEq1 l Z a0 hw [] b_85 b_96 b61 t67 kb67 x_74 t_74 kb_74 r_1 r_72 zc fm T96.heap n0 f100 f101 q96_0 q96_1 f105 f106 f107 f108 hp1 f111 f112 f113 f114 hp2 pS_COMPACT_STRINGS pP5 pS_SIOOBE_FORMATTER rfm f109) hZ (hw _ (List.mem_of_getElem? (i := 121) rfl)) (hw _ (List.mem_of_getElem? (i := 51) rfl)) (by decide) (by decide)) qa115 qc115 (g := (mkF m 191 #[.val (.int p0), .val (.int p1), .val (.int p2), .val (.int p3), .val (.int p4), .val (.int p5), .val (.int r_1), .val (.int r_2), .val (.int r_3), .val (.int r_4), .val (.int (1 : Int32)), .val (.ref b5), .val (.ref b13), .val (.ref b25), .val (.ref b41), .val (.ref b5), .val (.ref b61), .val (.ref x_74), .val (.ref b_85), .val (.ref b_96)] [(.ref b_96), (.ref b_85)])) rfl (by rw [hml]; rfl) (Steps.refl _) (argsL := [(.ref b_96)]) (rest := []) (lenOf pd__Ljava_lang_Object__Z rfl) rfl (by show 2 * 0 + _ ≤ _; exact Nat.le_of_eq rfl) (hb hby at_191) (fun _ _ => ⟨rfl, eH110, (by decide : 14 + 0 ≤ _), (by decide : 62 + 0 ≤ _)⟩)
  dsimp only [Pt.U, Pt.locs, Pt.cells, Pt.slots] at X115 l115 y115 z115 st115 hQ115
  try dsimp only [Nat.reduceAdd] at y115 z115
  rw [l115, y115, z115] at X115
  obtain ⟨r_115, rfl, Nq115, eH115, q115_0⟩ := hQ115
  have N115 := Fr.app N110 Nq115
  refine own_tr st115 ?_
  show own_Go p e below T115 (mkF m 194 #[.val (.int p0), .val (.int p1), .val (.int p2), .val (.int p3), .val (.int p4), .val (.int p5), .val (.int r_1), .val (.int r_2), .val (.int r_3), .val (.int r_4), .val (.int (1 : Int32)), .val (.ref b5), .val (.ref b13), .val (.ref b25), .val (.ref b41), .val (.ref b5), .val (.ref b61), .val (.ref x_74), .val (.ref b_85), .val (.ref b_96)] [(.int r_115)]) _
  refine own_st (fun t_ k_ => XS.aload X115.here hx rfl (hb hby at_194) rfl rfl k_) ?_
  show own_Go p e below T115 (mkF m 196 #[.val (.int p0), .val (.int p1), .val (.int p2), .val (.int p3), .val (.int p4), .val (.int p5), .val (.int r_1), .val (.int r_2), .val (.int r_3), .val (.int r_4), .val (.int (1 : Int32)), .val (.ref b5), .val (.ref b13), .val (.ref b25), .val (.ref b41), .val (.ref b5), .val (.ref b61), .val (.ref x_74), .val (.ref b_85), .val (.ref b_96)] [(.ref b61), (.int r_115)]) _
  refine own_st (fun t_ k_ => XS.aload X115.here hx rfl (hb hby at_196) rfl rfl k_) ?_
  show own_Go p e below T115 (mkF m 198 #[.val (.int p0), .val (.int p1), .val (.int p2), .val (.int p3), .val (.int p4), .val (.int p5), .val (.int r_1), .val (.int r_2), .val (.int r_3), .val (.int r_4), .val (.int (1 : Int32)), .val (.ref b5), .val (.ref b13), .val (.ref b25), .val (.ref b41), .val (.ref b5), .val (.ref b61), .val (.ref x_74), .val (.ref b_85), .val (.ref b_96)] [(.ref x_74), (.ref b61), (.int r_115)]) _
  have hcd116 : StrChars.Road.CodA ([r_72] : List Int32) 0 (1 : Int32) ((([r_72] : List Int32).map (fun c => c.toInt8.toInt32)).map Value.int) := StrChars.Road.codOf rfl (fun x hx => (hp2 x hx).2)
  have hbd116 : ∀ x ∈ ([r_72] : List Int32), ¬ x < 0 ∧ ¬ (65535 : Int32) < x := own_up _ hp2
  obtain ⟨cq117, kq117, qa117, qb117, qc117⟩ := isOf hZ eH115 f105
  obtain ⟨_, _, ⟨T117, L117, k117, n117⟩, -, X117, ⟨Lc117, hQ117, l117, y117, z117⟩, st117⟩ := X115.virtualBack hx (y := (⟨"java/lang/String", "equals", "(Ljava/lang/Object;)Z"⟩ : MethodName)) (z := (⟨"java/lang/String", "equals", "(Ljava/lang/Object;)Z"⟩ : MethodName)) hown (mvT hZ (hw _ (List.mem_of_getElem? (i := 112) rfl))) (mvT hZ (hw _ (List.mem_of_getElem? (i := 113) rfl))) (notFace_of_selects (args := #[]) (mvT hZ (hw _ (List.mem_of_getElem? (i := 115) rfl)))) (mvT hZ (hw _ (List.mem_of_getElem? (i := 115) rfl))) (mvT hZ (hw _ (List.mem_of_getElem? (i := 114) rfl))) (by decide) (StrChars.Road.eqW (W := 1) hZ heq (kI := 4) (hw _ (List.mem_of_getElem? (i := 7) rfl)) f105 f106 f107 f108 hcd104 hbd104 (Nat.le_of_ble_eq_true rfl) f111 f112 f113 f114 hcd116 hbd116 (Nat.le_of_ble_eq_true rfl) (pS_COMPACT_STRINGS.ext f109.2) pP5 (by decide) (by decide)) qa117 qc117 (g := (mkF m 198 #[.val (.int p0), .val (.int p1), .val (.int p2), .val (.int p3), .val (.int p4), .val (.int p5), .val (.int r_1), .val (.int r_2), .val (.int r_3), .val (.int r_4), .val (.int (1 : Int32)), .val (.ref b5), .val (.ref b13), .val (.ref b25), .val (.ref b41), .val (.ref b5), .val (.ref b61), .val (.ref x_74), .val (.ref b_85), .val (.ref b_96)] [(.ref x_74), (.ref b61), (.int r_115)])) rfl (by rw [hml]; rfl) (Steps.refl _) (argsL := [(.ref x_74)]) (rest := [(.int r_115)]) (lenOf pd__Ljava_lang_Object__Z rfl) rfl (by show 2 * 0 + _ ≤ _; exact Nat.le_of_eq rfl) (hb hby at_198) (fun _ _ => ⟨rfl, eH115, (by decide : 14 + 0 ≤ _), (by decide : 62 + 0 ≤ _)⟩)
  dsimp only [Pt.U, Pt.locs, Pt.cells, Pt.slots] at X117 l117 y117 z117 st117 hQ117
  try dsimp only [Nat.reduceAdd] at y117 z117
  rw [l117, y117, z117] at X117
  obtain ⟨hcase117, rfl, eH117⟩ := hQ117
  have N117 := Fr.app N115 (Fr.nil n0)
  rcases q115_0 with hy | hy
  · skip
    have hv117 : _ = some (Value.int 1) := hcase117.elim (fun q => q.1) (fun q => absurd hy.2 q.2)
    subst hv117
    refine own_tr st117 ?_
    show own_Go p e below T117 (mkF m 201 #[.val (.int p0), .val (.int p1), .val (.int p2), .val (.int p3), .val (.int p4), .val (.int p5), .val (.int r_1), .val (.int r_2), .val (.int r_3), .val (.int r_4), .val (.int (1 : Int32)), .val (.ref b5), .val (.ref b13), .val (.ref b25), .val (.ref b41), .val (.ref b5), .val (.ref b61), .val (.ref x_74), .val (.ref b_85), .val (.ref b_96)] [(.int (1 : Int32)), (.int r_115)]) _
    have hrr := hy.1
    refine own_st (fun t_ k_ => XS.icmpNo X117.here hx rfl (hb hby at_201) rfl (teq hrr).2 k_) ?_
    show own_Go p e below T117 (mkF m 204 #[.val (.int p0), .val (.int p1), .val (.int p2), .val (.int p3), .val (.int p4), .val (.int p5), .val (.int r_1), .val (.int r_2), .val (.int r_3), .val (.int r_4), .val (.int (1 : Int32)), .val (.ref b5), .val (.ref b13), .val (.ref b25), .val (.ref b41), .val (.ref b5), .val (.ref b61), .val (.ref x_74), .val (.ref b_85), .val (.ref b_96)] []) _
    refine own_st (fun t_ k_ => XS.iconst X117.here hx rfl (hb hby at_204) k_) ?_
    show own_Go p e below T117 (mkF m 205 #[.val (.int p0), .val (.int p1), .val (.int p2), .val (.int p3), .val (.int p4), .val (.int p5), .val (.int r_1), .val (.int r_2), .val (.int r_3), .val (.int r_4), .val (.int (1 : Int32)), .val (.ref b5), .val (.ref b13), .val (.ref b25), .val (.ref b41), .val (.ref b5), .val (.ref b61), .val (.ref x_74), .val (.ref b_85), .val (.ref b_96)] [(.int (1 : Int32))]) _
    refine own_st (fun t_ k_ => XS.goto X117.here hx rfl (pc0 := 205) (pc' := 209) rfl (hb hby at_205) (by decide) (by decide) k_) ?_
    show own_Go p e below T117 (mkF m 209 #[.val (.int p0), .val (.int p1), .val (.int p2), .val (.int p3), .val (.int p4), .val (.int p5), .val (.int r_1), .val (.int r_2), .val (.int r_3), .val (.int r_4), .val (.int (1 : Int32)), .val (.ref b5), .val (.ref b13), .val (.ref b25), .val (.ref b41), .val (.ref b5), .val (.ref b61), .val (.ref x_74), .val (.ref b_85), .val (.ref b_96)] [(.int (1 : Int32))]) _
    obtain ⟨fs, hr, hrun, hended, hRW⟩ := X117.leaveW hS (by rw [eH117]; exact hK96) (v := some (.int (1 : Int32))) (fun h => by rw [Bd.returns] at h; cases h)
    have hCend : CHr Z own_EL s.vm s.heap T117.vm T117.heap := by
      rw [hh, eH117]
      exact CHr.trans CR97 (CHv.at X117 hZ hEL CH97)
    refine own_fin (retN X117 hx (t := .boolean) Bd.returns (by simp) (hb hby at_209) hr) ⟨hrun, hended, _, _, rfl, ?_, hCend, hRW.1, hRW.2.1, hRW.2.2.1, hRW.2.2.2.mono (by decide) (by decide)⟩
    show Q_rmLaw1 Z p0 p1 p2 p3 p4 p5 zc fm h0 n0 _ T117.heap _
    rw [eH117]
    exact ⟨rfl, N117, K98⟩
  · skip
    have hv117 : _ = some (Value.int 0) := hcase117.elim (fun q => absurd q.2 hy.2) (fun q => q.1)
    subst hv117
    refine own_tr st117 ?_
    show own_Go p e below T117 (mkF m 201 #[.val (.int p0), .val (.int p1), .val (.int p2), .val (.int p3), .val (.int p4), .val (.int p5), .val (.int r_1), .val (.int r_2), .val (.int r_3), .val (.int r_4), .val (.int (1 : Int32)), .val (.ref b5), .val (.ref b13), .val (.ref b25), .val (.ref b41), .val (.ref b5), .val (.ref b61), .val (.ref x_74), .val (.ref b_85), .val (.ref b_96)] [(.int (0 : Int32)), (.int r_115)]) _
    have hrr := hy.1
    refine own_st (fun t_ k_ => XS.icmpNo X117.here hx rfl (hb hby at_201) rfl (teq hrr).2 k_) ?_
    show own_Go p e below T117 (mkF m 204 #[.val (.int p0), .val (.int p1), .val (.int p2), .val (.int p3), .val (.int p4), .val (.int p5), .val (.int r_1), .val (.int r_2), .val (.int r_3), .val (.int r_4), .val (.int (1 : Int32)), .val (.ref b5), .val (.ref b13), .val (.ref b25), .val (.ref b41), .val (.ref b5), .val (.ref b61), .val (.ref x_74), .val (.ref b_85), .val (.ref b_96)] []) _
    refine own_st (fun t_ k_ => XS.iconst X117.here hx rfl (hb hby at_204) k_) ?_
    show own_Go p e below T117 (mkF m 205 #[.val (.int p0), .val (.int p1), .val (.int p2), .val (.int p3), .val (.int p4), .val (.int p5), .val (.int r_1), .val (.int r_2), .val (.int r_3), .val (.int r_4), .val (.int (1 : Int32)), .val (.ref b5), .val (.ref b13), .val (.ref b25), .val (.ref b41), .val (.ref b5), .val (.ref b61), .val (.ref x_74), .val (.ref b_85), .val (.ref b_96)] [(.int (1 : Int32))]) _
    refine own_st (fun t_ k_ => XS.goto X117.here hx rfl (pc0 := 205) (pc' := 209) rfl (hb hby at_205) (by decide) (by decide) k_) ?_
    show own_Go p e below T117 (mkF m 209 #[.val (.int p0), .val (.int p1), .val (.int p2), .val (.int p3), .val (.int p4), .val (.int p5), .val (.int r_1), .val (.int r_2), .val (.int r_3), .val (.int r_4), .val (.int (1 : Int32)), .val (.ref b5), .val (.ref b13), .val (.ref b25), .val (.ref b41), .val (.ref b5), .val (.ref b61), .val (.ref x_74), .val (.ref b_85), .val (.ref b_96)] [(.int (1 : Int32))]) _
    obtain ⟨fs, hr, hrun, hended, hRW⟩ := X117.leaveW hS (by rw [eH117]; exact hK96) (v := some (.int (1 : Int32))) (fun h => by rw [Bd.returns] at h; cases h)
    have hCend : CHr Z own_EL s.vm s.heap T117.vm T117.heap := by
      rw [hh, eH117]
      exact CHr.trans CR97 (CHv.at X117 hZ hEL CH97)
    refine own_fin (retN X117 hx (t := .boolean) Bd.returns (by simp) (hb hby at_209) hr) ⟨hrun, hended, _, _, rfl, ?_, hCend, hRW.1, hRW.2.1, hRW.2.2.1, hRW.2.2.2.mono (by decide) (by decide)⟩
    show Q_rmLaw1 Z p0 p1 p2 p3 p4 p5 zc fm h0 n0 _ T117.heap _
    rw [eH117]
    exact ⟨rfl, N117, K98⟩
theorem ef_rmLaw2 (m : MethodId) (x0 : Int32) (x1 : Int32) (x2 : Int32) (x3 : Int32) (x4 : Int32) (x5 : Int32) : entryFrame m #[(.int x0), (.int x1), (.int x2), (.int x3), (.int x4), (.int x5)] maxLocals = mkF m 0 #[.val (.int x0), .val (.int x1), .val (.int x2), .val (.int x3), .val (.int x4), .val (.int x5), .unset, .unset, .unset, .unset, .unset, .unset, .unset, .unset, .unset, .unset, .unset, .unset, .unset, .unset] [] := by first | (simp [entryFrame, mkF, argsToLocals, Value.category, maxLocals]; done) | rfl
def Q_rmLaw2 (Z : State) (p0 : Int32) (p1 : Int32) (p2 : Int32) (p3 : Int32) (p4 : Int32) (p5 : Int32) (zc : Int32) (fm : Value) (h0 : Heap) (n0 : Nat) (v : Option Value) (h : Heap) (L : List Loc) : Prop := v = some (.int (1 : Int32)) ∧ Fr n0 L ∧ Keep h0 h []
set_option maxRecDepth 65536 in
set_option maxHeartbeats 40000000 in
theorem rmLaw2 (l : Launch) (Z : State) (a0 : Array Value) (hw : ∀ d ∈ tables_1, d.before a0 Z = true) (ws : List Jvm.Cond) (p0 : Int32) (p1 : Int32) (p2 : Int32) (p3 : Int32) (p4 : Int32) (p5 : Int32) (zc : Int32) (fm : Value) (h0 : Heap) (n0 : Nat) (Z0 : n0 ≤ h0.size) (pS_COMPACT_STRINGS : Sta Z Z.heap "java/lang/String" "COMPACT_STRINGS" "Z" (.int zc)) (pP5 : (¬ (zc = (0 : Int32)))) (pS_SIOOBE_FORMATTER : Sta Z Z.heap "jdk/internal/util/Preconditions" "SIOOBE_FORMATTER" "Ljava/util/function/BiFunction;" fm) (rfm : (fm.isRef = true)) (pO : Old Z n0 h0) (hn : ((1 : Int32) + (p4 &&& (3 : Int32)) = (2 : Int32))) :
    MetFree l x (head1 (Jvm.Cond.code x code maxLocals ret :: ws) room_1) (fun a U => a = #[(.int p0), (.int p1), (.int p2), (.int p3), (.int p4), (.int p5)] ∧ Z.Warmed39 U.vm ∧ U.heap = h0 ∧ CHv Z own_EL U.vm h0) (fun _ _ _ _ _ => True) (fun _ U o U' => ∃ v L, o = .returned v ∧ Q_rmLaw2 Z p0 p1 p2 p3 p4 p5 zc fm h0 n0 v U'.heap L ∧ CHr Z own_EL U.vm U.heap U'.vm U'.heap ∧ ReturnedEndW U o U' L 32 1152) := by
  refine MetFree.of_bodySF (plainFor_of_name pn_0) hisR ?_
  intro p e s m args below meth c s₁ Bd hml0 hP hK
  obtain ⟨rfl, hZ, hh, hCH⟩ := hP
  have hx := Bd.exec
  have hby := Bd.bytes
  have hml : c.maxLocals = 20 := hml0
  have hown : s.vm.findClass "com/example/faithful_courier/faithfulcourier/core/NameOfPinLaw" = some m.cls := findClass_of_methodNamed Bd.named
  have hnm := (name_of_methodNamed Bd.named Bd.method).1
  have X0 : Stand p l e room_1 (s.setVm s.vm) m #[(.int p0), (.int p1), (.int p2), (.int p3), (.int p4), (.int p5)] below meth c s₁ [] 0 0 := Stand.of_body Bd
  have e0 : s₁.heap = h0 := by rw [← hh, Bd.state]; rfl
  have N0 := Fr.nil n0
  have hEL := own_EW hw
  have hCR := CHr.refl hCH
  have hS : s.Since s.vm h0.size := (State.WarmedH.refl s).since _
  have hK0 : h0.size ≤ h0.size := Nat.le_refl _
  refine own_enter (ef_rmLaw2 m p0 p1 p2 p3 p4 p5) ?_
  have hws : ∀ d ∈ StrChars.Road.words, d.before a0 Z = true := fun d hd => hw d ((by decide +kernel : ∀ d ∈ StrChars.Road.words, d ∈ tables_1) d hd)
  have heq : ∀ d ∈ StrChars.Road.wordsEq, d.before a0 Z = true := fun d hd => hw d ((by decide +kernel : ∀ d ∈ StrChars.Road.wordsEq, d ∈ tables_1) d hd)
  refine own_st (fun t_ k_ => XS.iloadN X0.here hx rfl (hb hby at_0) rfl k_) ?_
  show own_Go p e below s₁ (mkF m 1 #[.val (.int p0), .val (.int p1), .val (.int p2), .val (.int p3), .val (.int p4), .val (.int p5), .unset, .unset, .unset, .unset, .unset, .unset, .unset, .unset, .unset, .unset, .unset, .unset, .unset, .unset] [(.int p0)]) _
  obtain ⟨_, _, ⟨T1, L1, k1, n1⟩, -, X1, ⟨Lc1, hQ1, l1, y1, z1⟩, st1⟩ := Jvm.LawKit.callS X0 hx (y := (⟨"com/example/faithful_courier/faithfulcourier/core/NameOfPinLaw", "allowed", "(I)C"⟩ : MethodName)) hown (mvT hZ (hw _ (List.mem_of_getElem? (i := 0) rfl))) (mvT hZ (hw _ (List.mem_of_getElem? (i := 1) rfl))) (mvT hZ (hw _ (List.mem_of_getElem? (i := 2) rfl))) (mvT hZ (hw _ (List.mem_of_getElem? (i := 3) rfl))) (by decide) (backOf (W := 0) (rmAl l Z a0 hw [] p0 h0 n0 Z0 ) hZ (hw _ (List.mem_of_getElem? (i := 3) rfl)) (hw _ (List.mem_of_getElem? (i := 2) rfl)) (by decide) (by decide)) (g := (mkF m 1 #[.val (.int p0), .val (.int p1), .val (.int p2), .val (.int p3), .val (.int p4), .val (.int p5), .unset, .unset, .unset, .unset, .unset, .unset, .unset, .unset, .unset, .unset, .unset, .unset, .unset, .unset] [(.int p0)])) rfl (by rw [hml]; rfl) (argsL := [(.int p0)]) (rest := []) (lenOf pd__I_C rfl) rfl (by show 2 * 0 + _ ≤ _; exact Nat.le_of_eq rfl) (hb hby at_1) (fun _ _ => ⟨rfl, e0, (by decide : 0 + 0 ≤ _), (by decide : 0 + 0 ≤ _)⟩)
  dsimp only [Pt.U, Pt.locs, Pt.cells, Pt.slots] at X1 l1 y1 z1 st1 hQ1
  try dsimp only [Nat.reduceAdd] at y1 z1
  rw [l1, y1, z1] at X1
  obtain ⟨r_1, rfl, Nq1, eH1, q1_0⟩ := hQ1
  have N1 := Fr.app N0 Nq1
  refine own_st st1 ?_
  show own_Go p e below T1 (mkF m 4 #[.val (.int p0), .val (.int p1), .val (.int p2), .val (.int p3), .val (.int p4), .val (.int p5), .unset, .unset, .unset, .unset, .unset, .unset, .unset, .unset, .unset, .unset, .unset, .unset, .unset, .unset] [(.int r_1)]) _
  refine own_st (fun t_ k_ => XS.istore X1.here hx rfl (hb hby at_4) rfl (l' := #[.val (.int p0), .val (.int p1), .val (.int p2), .val (.int p3), .val (.int p4), .val (.int p5), .val (.int r_1), .unset, .unset, .unset, .unset, .unset, .unset, .unset, .unset, .unset, .unset, .unset, .unset, .unset]) rfl k_) ?_
  show own_Go p e below T1 (mkF m 6 #[.val (.int p0), .val (.int p1), .val (.int p2), .val (.int p3), .val (.int p4), .val (.int p5), .val (.int r_1), .unset, .unset, .unset, .unset, .unset, .unset, .unset, .unset, .unset, .unset, .unset, .unset, .unset] []) _
  refine own_st (fun t_ k_ => XS.iloadN X1.here hx rfl (hb hby at_6) rfl k_) ?_
  show own_Go p e below T1 (mkF m 7 #[.val (.int p0), .val (.int p1), .val (.int p2), .val (.int p3), .val (.int p4), .val (.int p5), .val (.int r_1), .unset, .unset, .unset, .unset, .unset, .unset, .unset, .unset, .unset, .unset, .unset, .unset, .unset] [(.int p1)]) _
  obtain ⟨_, _, ⟨T2, L2, k2, n2⟩, -, X2, ⟨Lc2, hQ2, l2, y2, z2⟩, st2⟩ := Jvm.LawKit.callS X1 hx (y := (⟨"com/example/faithful_courier/faithfulcourier/core/NameOfPinLaw", "allowed", "(I)C"⟩ : MethodName)) hown (mvT hZ (hw _ (List.mem_of_getElem? (i := 0) rfl))) (mvT hZ (hw _ (List.mem_of_getElem? (i := 1) rfl))) (mvT hZ (hw _ (List.mem_of_getElem? (i := 2) rfl))) (mvT hZ (hw _ (List.mem_of_getElem? (i := 3) rfl))) (by decide) (backOf (W := 0) (rmAl l Z a0 hw [] p1 h0 n0 Z0 ) hZ (hw _ (List.mem_of_getElem? (i := 3) rfl)) (hw _ (List.mem_of_getElem? (i := 2) rfl)) (by decide) (by decide)) (g := (mkF m 7 #[.val (.int p0), .val (.int p1), .val (.int p2), .val (.int p3), .val (.int p4), .val (.int p5), .val (.int r_1), .unset, .unset, .unset, .unset, .unset, .unset, .unset, .unset, .unset, .unset, .unset, .unset, .unset] [(.int p1)])) rfl (by rw [hml]; rfl) (argsL := [(.int p1)]) (rest := []) (lenOf pd__I_C rfl) rfl (by show 2 * 0 + _ ≤ _; exact Nat.le_of_eq rfl) (hb hby at_7) (fun _ _ => ⟨rfl, eH1, (by decide : 0 + 0 ≤ _), (by decide : 0 + 0 ≤ _)⟩)
  dsimp only [Pt.U, Pt.locs, Pt.cells, Pt.slots] at X2 l2 y2 z2 st2 hQ2
  try dsimp only [Nat.reduceAdd] at y2 z2
  rw [l2, y2, z2] at X2
  obtain ⟨r_2, rfl, Nq2, eH2, q2_0⟩ := hQ2
  have N2 := Fr.app N1 Nq2
  refine own_st st2 ?_
  show own_Go p e below T2 (mkF m 10 #[.val (.int p0), .val (.int p1), .val (.int p2), .val (.int p3), .val (.int p4), .val (.int p5), .val (.int r_1), .unset, .unset, .unset, .unset, .unset, .unset, .unset, .unset, .unset, .unset, .unset, .unset, .unset] [(.int r_2)]) _
  refine own_st (fun t_ k_ => XS.istore X2.here hx rfl (hb hby at_10) rfl (l' := #[.val (.int p0), .val (.int p1), .val (.int p2), .val (.int p3), .val (.int p4), .val (.int p5), .val (.int r_1), .val (.int r_2), .unset, .unset, .unset, .unset, .unset, .unset, .unset, .unset, .unset, .unset, .unset, .unset]) rfl k_) ?_
  show own_Go p e below T2 (mkF m 12 #[.val (.int p0), .val (.int p1), .val (.int p2), .val (.int p3), .val (.int p4), .val (.int p5), .val (.int r_1), .val (.int r_2), .unset, .unset, .unset, .unset, .unset, .unset, .unset, .unset, .unset, .unset, .unset, .unset] []) _
  refine own_st (fun t_ k_ => XS.iloadN X2.here hx rfl (hb hby at_12) rfl k_) ?_
  show own_Go p e below T2 (mkF m 13 #[.val (.int p0), .val (.int p1), .val (.int p2), .val (.int p3), .val (.int p4), .val (.int p5), .val (.int r_1), .val (.int r_2), .unset, .unset, .unset, .unset, .unset, .unset, .unset, .unset, .unset, .unset, .unset, .unset] [(.int p2)]) _
  obtain ⟨_, _, ⟨T3, L3, k3, n3⟩, -, X3, ⟨Lc3, hQ3, l3, y3, z3⟩, st3⟩ := Jvm.LawKit.callS X2 hx (y := (⟨"com/example/faithful_courier/faithfulcourier/core/NameOfPinLaw", "allowed", "(I)C"⟩ : MethodName)) hown (mvT hZ (hw _ (List.mem_of_getElem? (i := 0) rfl))) (mvT hZ (hw _ (List.mem_of_getElem? (i := 1) rfl))) (mvT hZ (hw _ (List.mem_of_getElem? (i := 2) rfl))) (mvT hZ (hw _ (List.mem_of_getElem? (i := 3) rfl))) (by decide) (backOf (W := 0) (rmAl l Z a0 hw [] p2 h0 n0 Z0 ) hZ (hw _ (List.mem_of_getElem? (i := 3) rfl)) (hw _ (List.mem_of_getElem? (i := 2) rfl)) (by decide) (by decide)) (g := (mkF m 13 #[.val (.int p0), .val (.int p1), .val (.int p2), .val (.int p3), .val (.int p4), .val (.int p5), .val (.int r_1), .val (.int r_2), .unset, .unset, .unset, .unset, .unset, .unset, .unset, .unset, .unset, .unset, .unset, .unset] [(.int p2)])) rfl (by rw [hml]; rfl) (argsL := [(.int p2)]) (rest := []) (lenOf pd__I_C rfl) rfl (by show 2 * 0 + _ ≤ _; exact Nat.le_of_eq rfl) (hb hby at_13) (fun _ _ => ⟨rfl, eH2, (by decide : 0 + 0 ≤ _), (by decide : 0 + 0 ≤ _)⟩)
  dsimp only [Pt.U, Pt.locs, Pt.cells, Pt.slots] at X3 l3 y3 z3 st3 hQ3
  try dsimp only [Nat.reduceAdd] at y3 z3
  rw [l3, y3, z3] at X3
  obtain ⟨r_3, rfl, Nq3, eH3, q3_0⟩ := hQ3
  have N3 := Fr.app N2 Nq3
  refine own_st st3 ?_
  show own_Go p e below T3 (mkF m 16 #[.val (.int p0), .val (.int p1), .val (.int p2), .val (.int p3), .val (.int p4), .val (.int p5), .val (.int r_1), .val (.int r_2), .unset, .unset, .unset, .unset, .unset, .unset, .unset, .unset, .unset, .unset, .unset, .unset] [(.int r_3)]) _
  refine own_st (fun t_ k_ => XS.istore X3.here hx rfl (hb hby at_16) rfl (l' := #[.val (.int p0), .val (.int p1), .val (.int p2), .val (.int p3), .val (.int p4), .val (.int p5), .val (.int r_1), .val (.int r_2), .val (.int r_3), .unset, .unset, .unset, .unset, .unset, .unset, .unset, .unset, .unset, .unset, .unset]) rfl k_) ?_
  show own_Go p e below T3 (mkF m 18 #[.val (.int p0), .val (.int p1), .val (.int p2), .val (.int p3), .val (.int p4), .val (.int p5), .val (.int r_1), .val (.int r_2), .val (.int r_3), .unset, .unset, .unset, .unset, .unset, .unset, .unset, .unset, .unset, .unset, .unset] []) _
  refine own_st (fun t_ k_ => XS.iloadN X3.here hx rfl (hb hby at_18) rfl k_) ?_
  show own_Go p e below T3 (mkF m 19 #[.val (.int p0), .val (.int p1), .val (.int p2), .val (.int p3), .val (.int p4), .val (.int p5), .val (.int r_1), .val (.int r_2), .val (.int r_3), .unset, .unset, .unset, .unset, .unset, .unset, .unset, .unset, .unset, .unset, .unset] [(.int p3)]) _
  obtain ⟨_, _, ⟨T4, L4, k4, n4⟩, -, X4, ⟨Lc4, hQ4, l4, y4, z4⟩, st4⟩ := Jvm.LawKit.callS X3 hx (y := (⟨"com/example/faithful_courier/faithfulcourier/core/NameOfPinLaw", "allowed", "(I)C"⟩ : MethodName)) hown (mvT hZ (hw _ (List.mem_of_getElem? (i := 0) rfl))) (mvT hZ (hw _ (List.mem_of_getElem? (i := 1) rfl))) (mvT hZ (hw _ (List.mem_of_getElem? (i := 2) rfl))) (mvT hZ (hw _ (List.mem_of_getElem? (i := 3) rfl))) (by decide) (backOf (W := 0) (rmAl l Z a0 hw [] p3 h0 n0 Z0 ) hZ (hw _ (List.mem_of_getElem? (i := 3) rfl)) (hw _ (List.mem_of_getElem? (i := 2) rfl)) (by decide) (by decide)) (g := (mkF m 19 #[.val (.int p0), .val (.int p1), .val (.int p2), .val (.int p3), .val (.int p4), .val (.int p5), .val (.int r_1), .val (.int r_2), .val (.int r_3), .unset, .unset, .unset, .unset, .unset, .unset, .unset, .unset, .unset, .unset, .unset] [(.int p3)])) rfl (by rw [hml]; rfl) (argsL := [(.int p3)]) (rest := []) (lenOf pd__I_C rfl) rfl (by show 2 * 0 + _ ≤ _; exact Nat.le_of_eq rfl) (hb hby at_19) (fun _ _ => ⟨rfl, eH3, (by decide : 0 + 0 ≤ _), (by decide : 0 + 0 ≤ _)⟩)
  dsimp only [Pt.U, Pt.locs, Pt.cells, Pt.slots] at X4 l4 y4 z4 st4 hQ4
  try dsimp only [Nat.reduceAdd] at y4 z4
  rw [l4, y4, z4] at X4
  obtain ⟨r_4, rfl, Nq4, eH4, q4_0⟩ := hQ4
  have N4 := Fr.app N3 Nq4
  refine own_st st4 ?_
  show own_Go p e below T4 (mkF m 22 #[.val (.int p0), .val (.int p1), .val (.int p2), .val (.int p3), .val (.int p4), .val (.int p5), .val (.int r_1), .val (.int r_2), .val (.int r_3), .unset, .unset, .unset, .unset, .unset, .unset, .unset, .unset, .unset, .unset, .unset] [(.int r_4)]) _
  refine own_st (fun t_ k_ => XS.istore X4.here hx rfl (hb hby at_22) rfl (l' := #[.val (.int p0), .val (.int p1), .val (.int p2), .val (.int p3), .val (.int p4), .val (.int p5), .val (.int r_1), .val (.int r_2), .val (.int r_3), .val (.int r_4), .unset, .unset, .unset, .unset, .unset, .unset, .unset, .unset, .unset, .unset]) rfl k_) ?_
  show own_Go p e below T4 (mkF m 24 #[.val (.int p0), .val (.int p1), .val (.int p2), .val (.int p3), .val (.int p4), .val (.int p5), .val (.int r_1), .val (.int r_2), .val (.int r_3), .val (.int r_4), .unset, .unset, .unset, .unset, .unset, .unset, .unset, .unset, .unset, .unset] []) _
  refine own_st (fun t_ k_ => XS.iconst X4.here hx rfl (hb hby at_24) k_) ?_
  show own_Go p e below T4 (mkF m 25 #[.val (.int p0), .val (.int p1), .val (.int p2), .val (.int p3), .val (.int p4), .val (.int p5), .val (.int r_1), .val (.int r_2), .val (.int r_3), .val (.int r_4), .unset, .unset, .unset, .unset, .unset, .unset, .unset, .unset, .unset, .unset] [(.int (1 : Int32))]) _
  refine own_st (fun t_ k_ => XS.iload X4.here hx rfl (hb hby at_25) rfl k_) ?_
  show own_Go p e below T4 (mkF m 27 #[.val (.int p0), .val (.int p1), .val (.int p2), .val (.int p3), .val (.int p4), .val (.int p5), .val (.int r_1), .val (.int r_2), .val (.int r_3), .val (.int r_4), .unset, .unset, .unset, .unset, .unset, .unset, .unset, .unset, .unset, .unset] [(.int p4), (.int (1 : Int32))]) _
  refine own_st (fun t_ k_ => XS.iconst X4.here hx rfl (hb hby at_27) k_) ?_
  show own_Go p e below T4 (mkF m 28 #[.val (.int p0), .val (.int p1), .val (.int p2), .val (.int p3), .val (.int p4), .val (.int p5), .val (.int r_1), .val (.int r_2), .val (.int r_3), .val (.int r_4), .unset, .unset, .unset, .unset, .unset, .unset, .unset, .unset, .unset, .unset] [(.int (3 : Int32)), (.int p4), (.int (1 : Int32))]) _
  refine own_st (fun t_ k_ => XS.iand X4.here hx rfl (hb hby at_28) rfl k_) ?_
  show own_Go p e below T4 (mkF m 29 #[.val (.int p0), .val (.int p1), .val (.int p2), .val (.int p3), .val (.int p4), .val (.int p5), .val (.int r_1), .val (.int r_2), .val (.int r_3), .val (.int r_4), .unset, .unset, .unset, .unset, .unset, .unset, .unset, .unset, .unset, .unset] [(.int (p4 &&& (3 : Int32))), (.int (1 : Int32))]) _
  refine own_st (fun t_ k_ => XS.iadd X4.here hx rfl (hb hby at_29) rfl k_) ?_
  show own_Go p e below T4 (mkF m 30 #[.val (.int p0), .val (.int p1), .val (.int p2), .val (.int p3), .val (.int p4), .val (.int p5), .val (.int r_1), .val (.int r_2), .val (.int r_3), .val (.int r_4), .unset, .unset, .unset, .unset, .unset, .unset, .unset, .unset, .unset, .unset] [(.int ((1 : Int32) + (p4 &&& (3 : Int32))))]) _
  rw [hn]
  show own_Go p e below T4 (mkF m 30 #[.val (.int p0), .val (.int p1), .val (.int p2), .val (.int p3), .val (.int p4), .val (.int p5), .val (.int r_1), .val (.int r_2), .val (.int r_3), .val (.int r_4), .unset, .unset, .unset, .unset, .unset, .unset, .unset, .unset, .unset, .unset] [(.int (2 : Int32))]) _
  refine own_st (fun t_ k_ => XS.istore X4.here hx rfl (hb hby at_30) rfl (l' := #[.val (.int p0), .val (.int p1), .val (.int p2), .val (.int p3), .val (.int p4), .val (.int p5), .val (.int r_1), .val (.int r_2), .val (.int r_3), .val (.int r_4), .val (.int (2 : Int32)), .unset, .unset, .unset, .unset, .unset, .unset, .unset, .unset, .unset]) rfl k_) ?_
  show own_Go p e below T4 (mkF m 32 #[.val (.int p0), .val (.int p1), .val (.int p2), .val (.int p3), .val (.int p4), .val (.int p5), .val (.int r_1), .val (.int r_2), .val (.int r_3), .val (.int r_4), .val (.int (2 : Int32)), .unset, .unset, .unset, .unset, .unset, .unset, .unset, .unset, .unset] []) _
  refine own_st (fun t_ k_ => XS.iconst X4.here hx rfl (hb hby at_32) k_) ?_
  show own_Go p e below T4 (mkF m 33 #[.val (.int p0), .val (.int p1), .val (.int p2), .val (.int p3), .val (.int p4), .val (.int p5), .val (.int r_1), .val (.int r_2), .val (.int r_3), .val (.int r_4), .val (.int (2 : Int32)), .unset, .unset, .unset, .unset, .unset, .unset, .unset, .unset, .unset] [(.int (1 : Int32))]) _
  obtain ⟨T5, h5, k5, X5, e5, E5, A5, st5⟩ := newP X4 hx hZ (hw _ (List.mem_of_getElem? (i := 5) rfl)) eH4 (g := (mkF m 33 #[.val (.int p0), .val (.int p1), .val (.int p2), .val (.int p3), .val (.int p4), .val (.int p5), .val (.int r_1), .val (.int r_2), .val (.int r_3), .val (.int r_4), .val (.int (2 : Int32)), .unset, .unset, .unset, .unset, .unset, .unset, .unset, .unset, .unset] [(.int (1 : Int32))])) rfl (hb hby at_33) rfl (by decide) (cap := 1) (by decide) (by decide) (by decide) (by decide)
  obtain ⟨b5, g5⟩ : ∃ z, z = h0.size := ⟨_, rfl⟩
  rw [← g5] at A5 st5
  have G5 : n0 ≤ b5 := Nat.le_trans Z0 (Nat.le_of_eq g5.symm)
  have B5 : h0.size ≤ b5 := Nat.le_trans (Keep.refl h0 []).1 (Nat.le_of_eq g5.symm)
  have CH6 := hCH.ext E5
  have CR6 := CHr.trans hCR (CHr.ext E5 hCH)
  have K7 : Keep h0 h5 [] := (Keep.refl h0 []).ext E5
  have V5 : Arv Z h5 b5 k5 .char (1 : Int32) [(.int (0 : Int32))] (.int (0 : Int32)) := (Arv.new A5 (by decide)).pad (pad_rep [] (.int (0 : Int32)) 1)
  refine own_st st5 ?_
  show own_Go p e below T5 (mkF m 35 #[.val (.int p0), .val (.int p1), .val (.int p2), .val (.int p3), .val (.int p4), .val (.int p5), .val (.int r_1), .val (.int r_2), .val (.int r_3), .val (.int r_4), .val (.int (2 : Int32)), .unset, .unset, .unset, .unset, .unset, .unset, .unset, .unset, .unset] [(.ref b5)]) _
  refine own_st (fun t_ k_ => XS.dup X5.here hx rfl (hb hby at_35) rfl rfl k_) ?_
  show own_Go p e below T5 (mkF m 36 #[.val (.int p0), .val (.int p1), .val (.int p2), .val (.int p3), .val (.int p4), .val (.int p5), .val (.int r_1), .val (.int r_2), .val (.int r_3), .val (.int r_4), .val (.int (2 : Int32)), .unset, .unset, .unset, .unset, .unset, .unset, .unset, .unset, .unset] [(.ref b5), (.ref b5)]) _
  refine own_st (fun t_ k_ => XS.iconst X5.here hx rfl (hb hby at_36) k_) ?_
  show own_Go p e below T5 (mkF m 37 #[.val (.int p0), .val (.int p1), .val (.int p2), .val (.int p3), .val (.int p4), .val (.int p5), .val (.int r_1), .val (.int r_2), .val (.int r_3), .val (.int r_4), .val (.int (2 : Int32)), .unset, .unset, .unset, .unset, .unset, .unset, .unset, .unset, .unset] [(.int (0 : Int32)), (.ref b5), (.ref b5)]) _
  refine own_st (fun t_ k_ => XS.iload X5.here hx rfl (hb hby at_37) rfl k_) ?_
  show own_Go p e below T5 (mkF m 39 #[.val (.int p0), .val (.int p1), .val (.int p2), .val (.int p3), .val (.int p4), .val (.int p5), .val (.int r_1), .val (.int r_2), .val (.int r_3), .val (.int r_4), .val (.int (2 : Int32)), .unset, .unset, .unset, .unset, .unset, .unset, .unset, .unset, .unset] [(.int r_1), (.int (0 : Int32)), (.ref b5), (.ref b5)]) _
  obtain ⟨cl8, Ar8, q8, Sz8, Nn8, Hh8, Gg8⟩ := id V5
  have hin8 : ¬ ((0 : Int32) < 0 ∨ cl8.slots.size ≤ ((0 : Int32)).toNatClampNeg) := inb_of Sz8 ⟨by decide, by decide⟩
  obtain ⟨T9, h9, X9, e9, W9, st9⟩ := stC X5 hx hZ e5 Ar8 (j := (0 : Int32)) hin8 (g := (mkF m 39 #[.val (.int p0), .val (.int p1), .val (.int p2), .val (.int p3), .val (.int p4), .val (.int p5), .val (.int r_1), .val (.int r_2), .val (.int r_3), .val (.int r_4), .val (.int (2 : Int32)), .unset, .unset, .unset, .unset, .unset, .unset, .unset, .unset, .unset] [(.int r_1), (.int (0 : Int32)), (.ref b5), (.ref b5)])) rfl rfl (hb hby at_39)
  have V9 : Arv Z h9 b5 k5 .char (1 : Int32) [(.int (nar .char r_1))] (.int (0 : Int32)) := Arv.set Ar8 q8 Sz8 Nn8 Hh8 Gg8 (fits_nar_char _) W9 0 rfl (Nat.le_of_ble_eq_true rfl)
  rw [own_alnar q1_0] at V9
  have Sa10 : Safe Z own_EL s.vm h5 b5 := (Safe.arv hZ.alike V5 (by decide))
  have CH10 := CH6.wr W9 Sa10
  have CR10 := CHr.trans CR6 (CHr.wr W9 Sa10 CH6)
  have K11 : Keep h0 h9 [] := K7.wr W9 (Or.inr B5)
  have N9 := Fr.snoc X9 N4 G5
  refine own_st st9 ?_
  show own_Go p e below T9 (mkF m 40 #[.val (.int p0), .val (.int p1), .val (.int p2), .val (.int p3), .val (.int p4), .val (.int p5), .val (.int r_1), .val (.int r_2), .val (.int r_3), .val (.int r_4), .val (.int (2 : Int32)), .unset, .unset, .unset, .unset, .unset, .unset, .unset, .unset, .unset] [(.ref b5)]) _
  refine own_st (fun t_ k_ => XS.astore X9.here hx rfl (hb hby at_40) rfl rfl (l' := #[.val (.int p0), .val (.int p1), .val (.int p2), .val (.int p3), .val (.int p4), .val (.int p5), .val (.int r_1), .val (.int r_2), .val (.int r_3), .val (.int r_4), .val (.int (2 : Int32)), .val (.ref b5), .unset, .unset, .unset, .unset, .unset, .unset, .unset, .unset]) rfl k_) ?_
  show own_Go p e below T9 (mkF m 42 #[.val (.int p0), .val (.int p1), .val (.int p2), .val (.int p3), .val (.int p4), .val (.int p5), .val (.int r_1), .val (.int r_2), .val (.int r_3), .val (.int r_4), .val (.int (2 : Int32)), .val (.ref b5), .unset, .unset, .unset, .unset, .unset, .unset, .unset, .unset] []) _
  refine own_st (fun t_ k_ => XS.iconst X9.here hx rfl (hb hby at_42) k_) ?_
  show own_Go p e below T9 (mkF m 43 #[.val (.int p0), .val (.int p1), .val (.int p2), .val (.int p3), .val (.int p4), .val (.int p5), .val (.int r_1), .val (.int r_2), .val (.int r_3), .val (.int r_4), .val (.int (2 : Int32)), .val (.ref b5), .unset, .unset, .unset, .unset, .unset, .unset, .unset, .unset] [(.int (2 : Int32))]) _
  have f12 := (Nat.le_trans (Nat.le_trans Z0 E5.1) (Keep.of_wr W9).1)
  obtain ⟨T13, h13, k13, X13, e13, E13, A13, st13⟩ := newP X9 hx hZ (hw _ (List.mem_of_getElem? (i := 5) rfl)) e9 (g := (mkF m 43 #[.val (.int p0), .val (.int p1), .val (.int p2), .val (.int p3), .val (.int p4), .val (.int p5), .val (.int r_1), .val (.int r_2), .val (.int r_3), .val (.int r_4), .val (.int (2 : Int32)), .val (.ref b5), .unset, .unset, .unset, .unset, .unset, .unset, .unset, .unset] [(.int (2 : Int32))])) rfl (hb hby at_43) rfl (by decide) (cap := 2) (by decide) (by decide) (by decide) (by decide)
  obtain ⟨b13, g13⟩ : ∃ z, z = h9.size := ⟨_, rfl⟩
  rw [← g13] at A13 st13
  have G13 : n0 ≤ b13 := Nat.le_trans f12 (Nat.le_of_eq g13.symm)
  have B13 : h0.size ≤ b13 := Nat.le_trans K11.1 (Nat.le_of_eq g13.symm)
  have CH14 := CH10.ext E13
  have CR14 := CHr.trans CR10 (CHr.ext E13 CH10)
  have K15 : Keep h0 h13 [] := K11.ext E13
  have V13 : Arv Z h13 b13 k13 .char (2 : Int32) [(.int (0 : Int32)), (.int (0 : Int32))] (.int (0 : Int32)) := (Arv.new A13 (by decide)).pad (pad_rep [] (.int (0 : Int32)) 2)
  refine own_st st13 ?_
  show own_Go p e below T13 (mkF m 45 #[.val (.int p0), .val (.int p1), .val (.int p2), .val (.int p3), .val (.int p4), .val (.int p5), .val (.int r_1), .val (.int r_2), .val (.int r_3), .val (.int r_4), .val (.int (2 : Int32)), .val (.ref b5), .unset, .unset, .unset, .unset, .unset, .unset, .unset, .unset] [(.ref b13)]) _
  refine own_st (fun t_ k_ => XS.dup X13.here hx rfl (hb hby at_45) rfl rfl k_) ?_
  show own_Go p e below T13 (mkF m 46 #[.val (.int p0), .val (.int p1), .val (.int p2), .val (.int p3), .val (.int p4), .val (.int p5), .val (.int r_1), .val (.int r_2), .val (.int r_3), .val (.int r_4), .val (.int (2 : Int32)), .val (.ref b5), .unset, .unset, .unset, .unset, .unset, .unset, .unset, .unset] [(.ref b13), (.ref b13)]) _
  refine own_st (fun t_ k_ => XS.iconst X13.here hx rfl (hb hby at_46) k_) ?_
  show own_Go p e below T13 (mkF m 47 #[.val (.int p0), .val (.int p1), .val (.int p2), .val (.int p3), .val (.int p4), .val (.int p5), .val (.int r_1), .val (.int r_2), .val (.int r_3), .val (.int r_4), .val (.int (2 : Int32)), .val (.ref b5), .unset, .unset, .unset, .unset, .unset, .unset, .unset, .unset] [(.int (0 : Int32)), (.ref b13), (.ref b13)]) _
  refine own_st (fun t_ k_ => XS.iload X13.here hx rfl (hb hby at_47) rfl k_) ?_
  show own_Go p e below T13 (mkF m 49 #[.val (.int p0), .val (.int p1), .val (.int p2), .val (.int p3), .val (.int p4), .val (.int p5), .val (.int r_1), .val (.int r_2), .val (.int r_3), .val (.int r_4), .val (.int (2 : Int32)), .val (.ref b5), .unset, .unset, .unset, .unset, .unset, .unset, .unset, .unset] [(.int r_1), (.int (0 : Int32)), (.ref b13), (.ref b13)]) _
  obtain ⟨cl16, Ar16, q16, Sz16, Nn16, Hh16, Gg16⟩ := id V13
  have hin16 : ¬ ((0 : Int32) < 0 ∨ cl16.slots.size ≤ ((0 : Int32)).toNatClampNeg) := inb_of Sz16 ⟨by decide, by decide⟩
  obtain ⟨T17, h17, X17, e17, W17, st17⟩ := stC X13 hx hZ e13 Ar16 (j := (0 : Int32)) hin16 (g := (mkF m 49 #[.val (.int p0), .val (.int p1), .val (.int p2), .val (.int p3), .val (.int p4), .val (.int p5), .val (.int r_1), .val (.int r_2), .val (.int r_3), .val (.int r_4), .val (.int (2 : Int32)), .val (.ref b5), .unset, .unset, .unset, .unset, .unset, .unset, .unset, .unset] [(.int r_1), (.int (0 : Int32)), (.ref b13), (.ref b13)])) rfl rfl (hb hby at_49)
  have V17 : Arv Z h17 b13 k13 .char (2 : Int32) [(.int (nar .char r_1)), (.int (0 : Int32))] (.int (0 : Int32)) := Arv.set Ar16 q16 Sz16 Nn16 Hh16 Gg16 (fits_nar_char _) W17 0 rfl (Nat.le_of_ble_eq_true rfl)
  rw [own_alnar q1_0] at V17
  have Sa18 : Safe Z own_EL s.vm h13 b13 := (Safe.arv hZ.alike V13 (by decide))
  have CH18 := CH14.wr W17 Sa18
  have CR18 := CHr.trans CR14 (CHr.wr W17 Sa18 CH14)
  have K19 : Keep h0 h17 [] := K15.wr W17 (Or.inr B13)
  have N17 := Fr.snoc X17 N9 G13
  refine own_st st17 ?_
  show own_Go p e below T17 (mkF m 50 #[.val (.int p0), .val (.int p1), .val (.int p2), .val (.int p3), .val (.int p4), .val (.int p5), .val (.int r_1), .val (.int r_2), .val (.int r_3), .val (.int r_4), .val (.int (2 : Int32)), .val (.ref b5), .unset, .unset, .unset, .unset, .unset, .unset, .unset, .unset] [(.ref b13)]) _
  refine own_st (fun t_ k_ => XS.dup X17.here hx rfl (hb hby at_50) rfl rfl k_) ?_
  show own_Go p e below T17 (mkF m 51 #[.val (.int p0), .val (.int p1), .val (.int p2), .val (.int p3), .val (.int p4), .val (.int p5), .val (.int r_1), .val (.int r_2), .val (.int r_3), .val (.int r_4), .val (.int (2 : Int32)), .val (.ref b5), .unset, .unset, .unset, .unset, .unset, .unset, .unset, .unset] [(.ref b13), (.ref b13)]) _
  refine own_st (fun t_ k_ => XS.iconst X17.here hx rfl (hb hby at_51) k_) ?_
  show own_Go p e below T17 (mkF m 52 #[.val (.int p0), .val (.int p1), .val (.int p2), .val (.int p3), .val (.int p4), .val (.int p5), .val (.int r_1), .val (.int r_2), .val (.int r_3), .val (.int r_4), .val (.int (2 : Int32)), .val (.ref b5), .unset, .unset, .unset, .unset, .unset, .unset, .unset, .unset] [(.int (1 : Int32)), (.ref b13), (.ref b13)]) _
  refine own_st (fun t_ k_ => XS.iload X17.here hx rfl (hb hby at_52) rfl k_) ?_
  show own_Go p e below T17 (mkF m 54 #[.val (.int p0), .val (.int p1), .val (.int p2), .val (.int p3), .val (.int p4), .val (.int p5), .val (.int r_1), .val (.int r_2), .val (.int r_3), .val (.int r_4), .val (.int (2 : Int32)), .val (.ref b5), .unset, .unset, .unset, .unset, .unset, .unset, .unset, .unset] [(.int r_2), (.int (1 : Int32)), (.ref b13), (.ref b13)]) _
  obtain ⟨cl20, Ar20, q20, Sz20, Nn20, Hh20, Gg20⟩ := id V17
  have hin20 : ¬ ((1 : Int32) < 0 ∨ cl20.slots.size ≤ ((1 : Int32)).toNatClampNeg) := inb_of Sz20 ⟨by decide, by decide⟩
  obtain ⟨T21, h21, X21, e21, W21, st21⟩ := stC X17 hx hZ e17 Ar20 (j := (1 : Int32)) hin20 (g := (mkF m 54 #[.val (.int p0), .val (.int p1), .val (.int p2), .val (.int p3), .val (.int p4), .val (.int p5), .val (.int r_1), .val (.int r_2), .val (.int r_3), .val (.int r_4), .val (.int (2 : Int32)), .val (.ref b5), .unset, .unset, .unset, .unset, .unset, .unset, .unset, .unset] [(.int r_2), (.int (1 : Int32)), (.ref b13), (.ref b13)])) rfl rfl (hb hby at_54)
  have V21 : Arv Z h21 b13 k13 .char (2 : Int32) [(.int r_1), (.int (nar .char r_2))] (.int (0 : Int32)) := Arv.set Ar20 q20 Sz20 Nn20 Hh20 Gg20 (fits_nar_char _) W21 1 rfl (Nat.le_of_ble_eq_true rfl)
  rw [own_alnar q2_0] at V21
  have Sa22 : Safe Z own_EL s.vm h17 b13 := (Safe.arv hZ.alike V17 (by decide))
  have CH22 := CH18.wr W21 Sa22
  have CR22 := CHr.trans CR18 (CHr.wr W21 Sa22 CH18)
  have K23 : Keep h0 h21 [] := K19.wr W21 (Or.inr B13)
  have N21 := Fr.snoc X21 N17 G13
  refine own_st st21 ?_
  show own_Go p e below T21 (mkF m 55 #[.val (.int p0), .val (.int p1), .val (.int p2), .val (.int p3), .val (.int p4), .val (.int p5), .val (.int r_1), .val (.int r_2), .val (.int r_3), .val (.int r_4), .val (.int (2 : Int32)), .val (.ref b5), .unset, .unset, .unset, .unset, .unset, .unset, .unset, .unset] [(.ref b13)]) _
  refine own_st (fun t_ k_ => XS.astore X21.here hx rfl (hb hby at_55) rfl rfl (l' := #[.val (.int p0), .val (.int p1), .val (.int p2), .val (.int p3), .val (.int p4), .val (.int p5), .val (.int r_1), .val (.int r_2), .val (.int r_3), .val (.int r_4), .val (.int (2 : Int32)), .val (.ref b5), .val (.ref b13), .unset, .unset, .unset, .unset, .unset, .unset, .unset]) rfl k_) ?_
  show own_Go p e below T21 (mkF m 57 #[.val (.int p0), .val (.int p1), .val (.int p2), .val (.int p3), .val (.int p4), .val (.int p5), .val (.int r_1), .val (.int r_2), .val (.int r_3), .val (.int r_4), .val (.int (2 : Int32)), .val (.ref b5), .val (.ref b13), .unset, .unset, .unset, .unset, .unset, .unset, .unset] []) _
  refine own_st (fun t_ k_ => XS.iconst X21.here hx rfl (hb hby at_57) k_) ?_
  show own_Go p e below T21 (mkF m 58 #[.val (.int p0), .val (.int p1), .val (.int p2), .val (.int p3), .val (.int p4), .val (.int p5), .val (.int r_1), .val (.int r_2), .val (.int r_3), .val (.int r_4), .val (.int (2 : Int32)), .val (.ref b5), .val (.ref b13), .unset, .unset, .unset, .unset, .unset, .unset, .unset] [(.int (3 : Int32))]) _
  have f24 := (Nat.le_trans (Nat.le_trans (Nat.le_trans f12 E13.1) (Keep.of_wr W17).1) (Keep.of_wr W21).1)
  obtain ⟨T25, h25, k25, X25, e25, E25, A25, st25⟩ := newP X21 hx hZ (hw _ (List.mem_of_getElem? (i := 5) rfl)) e21 (g := (mkF m 58 #[.val (.int p0), .val (.int p1), .val (.int p2), .val (.int p3), .val (.int p4), .val (.int p5), .val (.int r_1), .val (.int r_2), .val (.int r_3), .val (.int r_4), .val (.int (2 : Int32)), .val (.ref b5), .val (.ref b13), .unset, .unset, .unset, .unset, .unset, .unset, .unset] [(.int (3 : Int32))])) rfl (hb hby at_58) rfl (by decide) (cap := 3) (by decide) (by decide) (by decide) (by decide)
  obtain ⟨b25, g25⟩ : ∃ z, z = h21.size := ⟨_, rfl⟩
  rw [← g25] at A25 st25
  have G25 : n0 ≤ b25 := Nat.le_trans f24 (Nat.le_of_eq g25.symm)
  have B25 : h0.size ≤ b25 := Nat.le_trans K23.1 (Nat.le_of_eq g25.symm)
  have CH26 := CH22.ext E25
  have CR26 := CHr.trans CR22 (CHr.ext E25 CH22)
  have K27 : Keep h0 h25 [] := K23.ext E25
  have V25 : Arv Z h25 b25 k25 .char (3 : Int32) [(.int (0 : Int32)), (.int (0 : Int32)), (.int (0 : Int32))] (.int (0 : Int32)) := (Arv.new A25 (by decide)).pad (pad_rep [] (.int (0 : Int32)) 3)
  refine own_st st25 ?_
  show own_Go p e below T25 (mkF m 60 #[.val (.int p0), .val (.int p1), .val (.int p2), .val (.int p3), .val (.int p4), .val (.int p5), .val (.int r_1), .val (.int r_2), .val (.int r_3), .val (.int r_4), .val (.int (2 : Int32)), .val (.ref b5), .val (.ref b13), .unset, .unset, .unset, .unset, .unset, .unset, .unset] [(.ref b25)]) _
  refine own_st (fun t_ k_ => XS.dup X25.here hx rfl (hb hby at_60) rfl rfl k_) ?_
  show own_Go p e below T25 (mkF m 61 #[.val (.int p0), .val (.int p1), .val (.int p2), .val (.int p3), .val (.int p4), .val (.int p5), .val (.int r_1), .val (.int r_2), .val (.int r_3), .val (.int r_4), .val (.int (2 : Int32)), .val (.ref b5), .val (.ref b13), .unset, .unset, .unset, .unset, .unset, .unset, .unset] [(.ref b25), (.ref b25)]) _
  refine own_st (fun t_ k_ => XS.iconst X25.here hx rfl (hb hby at_61) k_) ?_
  show own_Go p e below T25 (mkF m 62 #[.val (.int p0), .val (.int p1), .val (.int p2), .val (.int p3), .val (.int p4), .val (.int p5), .val (.int r_1), .val (.int r_2), .val (.int r_3), .val (.int r_4), .val (.int (2 : Int32)), .val (.ref b5), .val (.ref b13), .unset, .unset, .unset, .unset, .unset, .unset, .unset] [(.int (0 : Int32)), (.ref b25), (.ref b25)]) _
  refine own_st (fun t_ k_ => XS.iload X25.here hx rfl (hb hby at_62) rfl k_) ?_
  show own_Go p e below T25 (mkF m 64 #[.val (.int p0), .val (.int p1), .val (.int p2), .val (.int p3), .val (.int p4), .val (.int p5), .val (.int r_1), .val (.int r_2), .val (.int r_3), .val (.int r_4), .val (.int (2 : Int32)), .val (.ref b5), .val (.ref b13), .unset, .unset, .unset, .unset, .unset, .unset, .unset] [(.int r_1), (.int (0 : Int32)), (.ref b25), (.ref b25)]) _
  obtain ⟨cl28, Ar28, q28, Sz28, Nn28, Hh28, Gg28⟩ := id V25
  have hin28 : ¬ ((0 : Int32) < 0 ∨ cl28.slots.size ≤ ((0 : Int32)).toNatClampNeg) := inb_of Sz28 ⟨by decide, by decide⟩
  obtain ⟨T29, h29, X29, e29, W29, st29⟩ := stC X25 hx hZ e25 Ar28 (j := (0 : Int32)) hin28 (g := (mkF m 64 #[.val (.int p0), .val (.int p1), .val (.int p2), .val (.int p3), .val (.int p4), .val (.int p5), .val (.int r_1), .val (.int r_2), .val (.int r_3), .val (.int r_4), .val (.int (2 : Int32)), .val (.ref b5), .val (.ref b13), .unset, .unset, .unset, .unset, .unset, .unset, .unset] [(.int r_1), (.int (0 : Int32)), (.ref b25), (.ref b25)])) rfl rfl (hb hby at_64)
  have V29 : Arv Z h29 b25 k25 .char (3 : Int32) [(.int (nar .char r_1)), (.int (0 : Int32)), (.int (0 : Int32))] (.int (0 : Int32)) := Arv.set Ar28 q28 Sz28 Nn28 Hh28 Gg28 (fits_nar_char _) W29 0 rfl (Nat.le_of_ble_eq_true rfl)
  rw [own_alnar q1_0] at V29
  have Sa30 : Safe Z own_EL s.vm h25 b25 := (Safe.arv hZ.alike V25 (by decide))
  have CH30 := CH26.wr W29 Sa30
  have CR30 := CHr.trans CR26 (CHr.wr W29 Sa30 CH26)
  have K31 : Keep h0 h29 [] := K27.wr W29 (Or.inr B25)
  have N29 := Fr.snoc X29 N21 G25
  refine own_st st29 ?_
  show own_Go p e below T29 (mkF m 65 #[.val (.int p0), .val (.int p1), .val (.int p2), .val (.int p3), .val (.int p4), .val (.int p5), .val (.int r_1), .val (.int r_2), .val (.int r_3), .val (.int r_4), .val (.int (2 : Int32)), .val (.ref b5), .val (.ref b13), .unset, .unset, .unset, .unset, .unset, .unset, .unset] [(.ref b25)]) _
  refine own_st (fun t_ k_ => XS.dup X29.here hx rfl (hb hby at_65) rfl rfl k_) ?_
  show own_Go p e below T29 (mkF m 66 #[.val (.int p0), .val (.int p1), .val (.int p2), .val (.int p3), .val (.int p4), .val (.int p5), .val (.int r_1), .val (.int r_2), .val (.int r_3), .val (.int r_4), .val (.int (2 : Int32)), .val (.ref b5), .val (.ref b13), .unset, .unset, .unset, .unset, .unset, .unset, .unset] [(.ref b25), (.ref b25)]) _
  refine own_st (fun t_ k_ => XS.iconst X29.here hx rfl (hb hby at_66) k_) ?_
  show own_Go p e below T29 (mkF m 67 #[.val (.int p0), .val (.int p1), .val (.int p2), .val (.int p3), .val (.int p4), .val (.int p5), .val (.int r_1), .val (.int r_2), .val (.int r_3), .val (.int r_4), .val (.int (2 : Int32)), .val (.ref b5), .val (.ref b13), .unset, .unset, .unset, .unset, .unset, .unset, .unset] [(.int (1 : Int32)), (.ref b25), (.ref b25)]) _
  refine own_st (fun t_ k_ => XS.iload X29.here hx rfl (hb hby at_67) rfl k_) ?_
  show own_Go p e below T29 (mkF m 69 #[.val (.int p0), .val (.int p1), .val (.int p2), .val (.int p3), .val (.int p4), .val (.int p5), .val (.int r_1), .val (.int r_2), .val (.int r_3), .val (.int r_4), .val (.int (2 : Int32)), .val (.ref b5), .val (.ref b13), .unset, .unset, .unset, .unset, .unset, .unset, .unset] [(.int r_2), (.int (1 : Int32)), (.ref b25), (.ref b25)]) _
  obtain ⟨cl32, Ar32, q32, Sz32, Nn32, Hh32, Gg32⟩ := id V29
  have hin32 : ¬ ((1 : Int32) < 0 ∨ cl32.slots.size ≤ ((1 : Int32)).toNatClampNeg) := inb_of Sz32 ⟨by decide, by decide⟩
  obtain ⟨T33, h33, X33, e33, W33, st33⟩ := stC X29 hx hZ e29 Ar32 (j := (1 : Int32)) hin32 (g := (mkF m 69 #[.val (.int p0), .val (.int p1), .val (.int p2), .val (.int p3), .val (.int p4), .val (.int p5), .val (.int r_1), .val (.int r_2), .val (.int r_3), .val (.int r_4), .val (.int (2 : Int32)), .val (.ref b5), .val (.ref b13), .unset, .unset, .unset, .unset, .unset, .unset, .unset] [(.int r_2), (.int (1 : Int32)), (.ref b25), (.ref b25)])) rfl rfl (hb hby at_69)
  have V33 : Arv Z h33 b25 k25 .char (3 : Int32) [(.int r_1), (.int (nar .char r_2)), (.int (0 : Int32))] (.int (0 : Int32)) := Arv.set Ar32 q32 Sz32 Nn32 Hh32 Gg32 (fits_nar_char _) W33 1 rfl (Nat.le_of_ble_eq_true rfl)
  rw [own_alnar q2_0] at V33
  have Sa34 : Safe Z own_EL s.vm h29 b25 := (Safe.arv hZ.alike V29 (by decide))
  have CH34 := CH30.wr W33 Sa34
  have CR34 := CHr.trans CR30 (CHr.wr W33 Sa34 CH30)
  have K35 : Keep h0 h33 [] := K31.wr W33 (Or.inr B25)
  have N33 := Fr.snoc X33 N29 G25
  refine own_st st33 ?_
  show own_Go p e below T33 (mkF m 70 #[.val (.int p0), .val (.int p1), .val (.int p2), .val (.int p3), .val (.int p4), .val (.int p5), .val (.int r_1), .val (.int r_2), .val (.int r_3), .val (.int r_4), .val (.int (2 : Int32)), .val (.ref b5), .val (.ref b13), .unset, .unset, .unset, .unset, .unset, .unset, .unset] [(.ref b25)]) _
  refine own_st (fun t_ k_ => XS.dup X33.here hx rfl (hb hby at_70) rfl rfl k_) ?_
  show own_Go p e below T33 (mkF m 71 #[.val (.int p0), .val (.int p1), .val (.int p2), .val (.int p3), .val (.int p4), .val (.int p5), .val (.int r_1), .val (.int r_2), .val (.int r_3), .val (.int r_4), .val (.int (2 : Int32)), .val (.ref b5), .val (.ref b13), .unset, .unset, .unset, .unset, .unset, .unset, .unset] [(.ref b25), (.ref b25)]) _
  refine own_st (fun t_ k_ => XS.iconst X33.here hx rfl (hb hby at_71) k_) ?_
  show own_Go p e below T33 (mkF m 72 #[.val (.int p0), .val (.int p1), .val (.int p2), .val (.int p3), .val (.int p4), .val (.int p5), .val (.int r_1), .val (.int r_2), .val (.int r_3), .val (.int r_4), .val (.int (2 : Int32)), .val (.ref b5), .val (.ref b13), .unset, .unset, .unset, .unset, .unset, .unset, .unset] [(.int (2 : Int32)), (.ref b25), (.ref b25)]) _
  refine own_st (fun t_ k_ => XS.iload X33.here hx rfl (hb hby at_72) rfl k_) ?_
  show own_Go p e below T33 (mkF m 74 #[.val (.int p0), .val (.int p1), .val (.int p2), .val (.int p3), .val (.int p4), .val (.int p5), .val (.int r_1), .val (.int r_2), .val (.int r_3), .val (.int r_4), .val (.int (2 : Int32)), .val (.ref b5), .val (.ref b13), .unset, .unset, .unset, .unset, .unset, .unset, .unset] [(.int r_3), (.int (2 : Int32)), (.ref b25), (.ref b25)]) _
  obtain ⟨cl36, Ar36, q36, Sz36, Nn36, Hh36, Gg36⟩ := id V33
  have hin36 : ¬ ((2 : Int32) < 0 ∨ cl36.slots.size ≤ ((2 : Int32)).toNatClampNeg) := inb_of Sz36 ⟨by decide, by decide⟩
  obtain ⟨T37, h37, X37, e37, W37, st37⟩ := stC X33 hx hZ e33 Ar36 (j := (2 : Int32)) hin36 (g := (mkF m 74 #[.val (.int p0), .val (.int p1), .val (.int p2), .val (.int p3), .val (.int p4), .val (.int p5), .val (.int r_1), .val (.int r_2), .val (.int r_3), .val (.int r_4), .val (.int (2 : Int32)), .val (.ref b5), .val (.ref b13), .unset, .unset, .unset, .unset, .unset, .unset, .unset] [(.int r_3), (.int (2 : Int32)), (.ref b25), (.ref b25)])) rfl rfl (hb hby at_74)
  have V37 : Arv Z h37 b25 k25 .char (3 : Int32) [(.int r_1), (.int r_2), (.int (nar .char r_3))] (.int (0 : Int32)) := Arv.set Ar36 q36 Sz36 Nn36 Hh36 Gg36 (fits_nar_char _) W37 2 rfl (Nat.le_of_ble_eq_true rfl)
  rw [own_alnar q3_0] at V37
  have Sa38 : Safe Z own_EL s.vm h33 b25 := (Safe.arv hZ.alike V33 (by decide))
  have CH38 := CH34.wr W37 Sa38
  have CR38 := CHr.trans CR34 (CHr.wr W37 Sa38 CH34)
  have K39 : Keep h0 h37 [] := K35.wr W37 (Or.inr B25)
  have N37 := Fr.snoc X37 N33 G25
  refine own_st st37 ?_
  show own_Go p e below T37 (mkF m 75 #[.val (.int p0), .val (.int p1), .val (.int p2), .val (.int p3), .val (.int p4), .val (.int p5), .val (.int r_1), .val (.int r_2), .val (.int r_3), .val (.int r_4), .val (.int (2 : Int32)), .val (.ref b5), .val (.ref b13), .unset, .unset, .unset, .unset, .unset, .unset, .unset] [(.ref b25)]) _
  refine own_st (fun t_ k_ => XS.astore X37.here hx rfl (hb hby at_75) rfl rfl (l' := #[.val (.int p0), .val (.int p1), .val (.int p2), .val (.int p3), .val (.int p4), .val (.int p5), .val (.int r_1), .val (.int r_2), .val (.int r_3), .val (.int r_4), .val (.int (2 : Int32)), .val (.ref b5), .val (.ref b13), .val (.ref b25), .unset, .unset, .unset, .unset, .unset, .unset]) rfl k_) ?_
  show own_Go p e below T37 (mkF m 77 #[.val (.int p0), .val (.int p1), .val (.int p2), .val (.int p3), .val (.int p4), .val (.int p5), .val (.int r_1), .val (.int r_2), .val (.int r_3), .val (.int r_4), .val (.int (2 : Int32)), .val (.ref b5), .val (.ref b13), .val (.ref b25), .unset, .unset, .unset, .unset, .unset, .unset] []) _
  refine own_st (fun t_ k_ => XS.iconst X37.here hx rfl (hb hby at_77) k_) ?_
  show own_Go p e below T37 (mkF m 78 #[.val (.int p0), .val (.int p1), .val (.int p2), .val (.int p3), .val (.int p4), .val (.int p5), .val (.int r_1), .val (.int r_2), .val (.int r_3), .val (.int r_4), .val (.int (2 : Int32)), .val (.ref b5), .val (.ref b13), .val (.ref b25), .unset, .unset, .unset, .unset, .unset, .unset] [(.int (4 : Int32))]) _
  have f40 := (Nat.le_trans (Nat.le_trans (Nat.le_trans (Nat.le_trans f24 E25.1) (Keep.of_wr W29).1) (Keep.of_wr W33).1) (Keep.of_wr W37).1)
  obtain ⟨T41, h41, k41, X41, e41, E41, A41, st41⟩ := newP X37 hx hZ (hw _ (List.mem_of_getElem? (i := 5) rfl)) e37 (g := (mkF m 78 #[.val (.int p0), .val (.int p1), .val (.int p2), .val (.int p3), .val (.int p4), .val (.int p5), .val (.int r_1), .val (.int r_2), .val (.int r_3), .val (.int r_4), .val (.int (2 : Int32)), .val (.ref b5), .val (.ref b13), .val (.ref b25), .unset, .unset, .unset, .unset, .unset, .unset] [(.int (4 : Int32))])) rfl (hb hby at_78) rfl (by decide) (cap := 4) (by decide) (by decide) (by decide) (by decide)
  obtain ⟨b41, g41⟩ : ∃ z, z = h37.size := ⟨_, rfl⟩
  rw [← g41] at A41 st41
  have G41 : n0 ≤ b41 := Nat.le_trans f40 (Nat.le_of_eq g41.symm)
  have B41 : h0.size ≤ b41 := Nat.le_trans K39.1 (Nat.le_of_eq g41.symm)
  have CH42 := CH38.ext E41
  have CR42 := CHr.trans CR38 (CHr.ext E41 CH38)
  have K43 : Keep h0 h41 [] := K39.ext E41
  have V41 : Arv Z h41 b41 k41 .char (4 : Int32) [(.int (0 : Int32)), (.int (0 : Int32)), (.int (0 : Int32)), (.int (0 : Int32))] (.int (0 : Int32)) := (Arv.new A41 (by decide)).pad (pad_rep [] (.int (0 : Int32)) 4)
  refine own_st st41 ?_
  show own_Go p e below T41 (mkF m 80 #[.val (.int p0), .val (.int p1), .val (.int p2), .val (.int p3), .val (.int p4), .val (.int p5), .val (.int r_1), .val (.int r_2), .val (.int r_3), .val (.int r_4), .val (.int (2 : Int32)), .val (.ref b5), .val (.ref b13), .val (.ref b25), .unset, .unset, .unset, .unset, .unset, .unset] [(.ref b41)]) _
  refine own_st (fun t_ k_ => XS.dup X41.here hx rfl (hb hby at_80) rfl rfl k_) ?_
  show own_Go p e below T41 (mkF m 81 #[.val (.int p0), .val (.int p1), .val (.int p2), .val (.int p3), .val (.int p4), .val (.int p5), .val (.int r_1), .val (.int r_2), .val (.int r_3), .val (.int r_4), .val (.int (2 : Int32)), .val (.ref b5), .val (.ref b13), .val (.ref b25), .unset, .unset, .unset, .unset, .unset, .unset] [(.ref b41), (.ref b41)]) _
  refine own_st (fun t_ k_ => XS.iconst X41.here hx rfl (hb hby at_81) k_) ?_
  show own_Go p e below T41 (mkF m 82 #[.val (.int p0), .val (.int p1), .val (.int p2), .val (.int p3), .val (.int p4), .val (.int p5), .val (.int r_1), .val (.int r_2), .val (.int r_3), .val (.int r_4), .val (.int (2 : Int32)), .val (.ref b5), .val (.ref b13), .val (.ref b25), .unset, .unset, .unset, .unset, .unset, .unset] [(.int (0 : Int32)), (.ref b41), (.ref b41)]) _
  refine own_st (fun t_ k_ => XS.iload X41.here hx rfl (hb hby at_82) rfl k_) ?_
  show own_Go p e below T41 (mkF m 84 #[.val (.int p0), .val (.int p1), .val (.int p2), .val (.int p3), .val (.int p4), .val (.int p5), .val (.int r_1), .val (.int r_2), .val (.int r_3), .val (.int r_4), .val (.int (2 : Int32)), .val (.ref b5), .val (.ref b13), .val (.ref b25), .unset, .unset, .unset, .unset, .unset, .unset] [(.int r_1), (.int (0 : Int32)), (.ref b41), (.ref b41)]) _
  obtain ⟨cl44, Ar44, q44, Sz44, Nn44, Hh44, Gg44⟩ := id V41
  have hin44 : ¬ ((0 : Int32) < 0 ∨ cl44.slots.size ≤ ((0 : Int32)).toNatClampNeg) := inb_of Sz44 ⟨by decide, by decide⟩
  obtain ⟨T45, h45, X45, e45, W45, st45⟩ := stC X41 hx hZ e41 Ar44 (j := (0 : Int32)) hin44 (g := (mkF m 84 #[.val (.int p0), .val (.int p1), .val (.int p2), .val (.int p3), .val (.int p4), .val (.int p5), .val (.int r_1), .val (.int r_2), .val (.int r_3), .val (.int r_4), .val (.int (2 : Int32)), .val (.ref b5), .val (.ref b13), .val (.ref b25), .unset, .unset, .unset, .unset, .unset, .unset] [(.int r_1), (.int (0 : Int32)), (.ref b41), (.ref b41)])) rfl rfl (hb hby at_84)
  have V45 : Arv Z h45 b41 k41 .char (4 : Int32) [(.int (nar .char r_1)), (.int (0 : Int32)), (.int (0 : Int32)), (.int (0 : Int32))] (.int (0 : Int32)) := Arv.set Ar44 q44 Sz44 Nn44 Hh44 Gg44 (fits_nar_char _) W45 0 rfl (Nat.le_of_ble_eq_true rfl)
  rw [own_alnar q1_0] at V45
  have Sa46 : Safe Z own_EL s.vm h41 b41 := (Safe.arv hZ.alike V41 (by decide))
  have CH46 := CH42.wr W45 Sa46
  have CR46 := CHr.trans CR42 (CHr.wr W45 Sa46 CH42)
  have K47 : Keep h0 h45 [] := K43.wr W45 (Or.inr B41)
  have N45 := Fr.snoc X45 N37 G41
  refine own_st st45 ?_
  show own_Go p e below T45 (mkF m 85 #[.val (.int p0), .val (.int p1), .val (.int p2), .val (.int p3), .val (.int p4), .val (.int p5), .val (.int r_1), .val (.int r_2), .val (.int r_3), .val (.int r_4), .val (.int (2 : Int32)), .val (.ref b5), .val (.ref b13), .val (.ref b25), .unset, .unset, .unset, .unset, .unset, .unset] [(.ref b41)]) _
  refine own_st (fun t_ k_ => XS.dup X45.here hx rfl (hb hby at_85) rfl rfl k_) ?_
  show own_Go p e below T45 (mkF m 86 #[.val (.int p0), .val (.int p1), .val (.int p2), .val (.int p3), .val (.int p4), .val (.int p5), .val (.int r_1), .val (.int r_2), .val (.int r_3), .val (.int r_4), .val (.int (2 : Int32)), .val (.ref b5), .val (.ref b13), .val (.ref b25), .unset, .unset, .unset, .unset, .unset, .unset] [(.ref b41), (.ref b41)]) _
  refine own_st (fun t_ k_ => XS.iconst X45.here hx rfl (hb hby at_86) k_) ?_
  show own_Go p e below T45 (mkF m 87 #[.val (.int p0), .val (.int p1), .val (.int p2), .val (.int p3), .val (.int p4), .val (.int p5), .val (.int r_1), .val (.int r_2), .val (.int r_3), .val (.int r_4), .val (.int (2 : Int32)), .val (.ref b5), .val (.ref b13), .val (.ref b25), .unset, .unset, .unset, .unset, .unset, .unset] [(.int (1 : Int32)), (.ref b41), (.ref b41)]) _
  refine own_st (fun t_ k_ => XS.iload X45.here hx rfl (hb hby at_87) rfl k_) ?_
  show own_Go p e below T45 (mkF m 89 #[.val (.int p0), .val (.int p1), .val (.int p2), .val (.int p3), .val (.int p4), .val (.int p5), .val (.int r_1), .val (.int r_2), .val (.int r_3), .val (.int r_4), .val (.int (2 : Int32)), .val (.ref b5), .val (.ref b13), .val (.ref b25), .unset, .unset, .unset, .unset, .unset, .unset] [(.int r_2), (.int (1 : Int32)), (.ref b41), (.ref b41)]) _
  obtain ⟨cl48, Ar48, q48, Sz48, Nn48, Hh48, Gg48⟩ := id V45
  have hin48 : ¬ ((1 : Int32) < 0 ∨ cl48.slots.size ≤ ((1 : Int32)).toNatClampNeg) := inb_of Sz48 ⟨by decide, by decide⟩
  obtain ⟨T49, h49, X49, e49, W49, st49⟩ := stC X45 hx hZ e45 Ar48 (j := (1 : Int32)) hin48 (g := (mkF m 89 #[.val (.int p0), .val (.int p1), .val (.int p2), .val (.int p3), .val (.int p4), .val (.int p5), .val (.int r_1), .val (.int r_2), .val (.int r_3), .val (.int r_4), .val (.int (2 : Int32)), .val (.ref b5), .val (.ref b13), .val (.ref b25), .unset, .unset, .unset, .unset, .unset, .unset] [(.int r_2), (.int (1 : Int32)), (.ref b41), (.ref b41)])) rfl rfl (hb hby at_89)
  have V49 : Arv Z h49 b41 k41 .char (4 : Int32) [(.int r_1), (.int (nar .char r_2)), (.int (0 : Int32)), (.int (0 : Int32))] (.int (0 : Int32)) := Arv.set Ar48 q48 Sz48 Nn48 Hh48 Gg48 (fits_nar_char _) W49 1 rfl (Nat.le_of_ble_eq_true rfl)
  rw [own_alnar q2_0] at V49
  have Sa50 : Safe Z own_EL s.vm h45 b41 := (Safe.arv hZ.alike V45 (by decide))
  have CH50 := CH46.wr W49 Sa50
  have CR50 := CHr.trans CR46 (CHr.wr W49 Sa50 CH46)
  have K51 : Keep h0 h49 [] := K47.wr W49 (Or.inr B41)
  have N49 := Fr.snoc X49 N45 G41
  refine own_st st49 ?_
  show own_Go p e below T49 (mkF m 90 #[.val (.int p0), .val (.int p1), .val (.int p2), .val (.int p3), .val (.int p4), .val (.int p5), .val (.int r_1), .val (.int r_2), .val (.int r_3), .val (.int r_4), .val (.int (2 : Int32)), .val (.ref b5), .val (.ref b13), .val (.ref b25), .unset, .unset, .unset, .unset, .unset, .unset] [(.ref b41)]) _
  refine own_st (fun t_ k_ => XS.dup X49.here hx rfl (hb hby at_90) rfl rfl k_) ?_
  show own_Go p e below T49 (mkF m 91 #[.val (.int p0), .val (.int p1), .val (.int p2), .val (.int p3), .val (.int p4), .val (.int p5), .val (.int r_1), .val (.int r_2), .val (.int r_3), .val (.int r_4), .val (.int (2 : Int32)), .val (.ref b5), .val (.ref b13), .val (.ref b25), .unset, .unset, .unset, .unset, .unset, .unset] [(.ref b41), (.ref b41)]) _
  refine own_st (fun t_ k_ => XS.iconst X49.here hx rfl (hb hby at_91) k_) ?_
  show own_Go p e below T49 (mkF m 92 #[.val (.int p0), .val (.int p1), .val (.int p2), .val (.int p3), .val (.int p4), .val (.int p5), .val (.int r_1), .val (.int r_2), .val (.int r_3), .val (.int r_4), .val (.int (2 : Int32)), .val (.ref b5), .val (.ref b13), .val (.ref b25), .unset, .unset, .unset, .unset, .unset, .unset] [(.int (2 : Int32)), (.ref b41), (.ref b41)]) _
  refine own_st (fun t_ k_ => XS.iload X49.here hx rfl (hb hby at_92) rfl k_) ?_
  show own_Go p e below T49 (mkF m 94 #[.val (.int p0), .val (.int p1), .val (.int p2), .val (.int p3), .val (.int p4), .val (.int p5), .val (.int r_1), .val (.int r_2), .val (.int r_3), .val (.int r_4), .val (.int (2 : Int32)), .val (.ref b5), .val (.ref b13), .val (.ref b25), .unset, .unset, .unset, .unset, .unset, .unset] [(.int r_3), (.int (2 : Int32)), (.ref b41), (.ref b41)]) _
  obtain ⟨cl52, Ar52, q52, Sz52, Nn52, Hh52, Gg52⟩ := id V49
  have hin52 : ¬ ((2 : Int32) < 0 ∨ cl52.slots.size ≤ ((2 : Int32)).toNatClampNeg) := inb_of Sz52 ⟨by decide, by decide⟩
  obtain ⟨T53, h53, X53, e53, W53, st53⟩ := stC X49 hx hZ e49 Ar52 (j := (2 : Int32)) hin52 (g := (mkF m 94 #[.val (.int p0), .val (.int p1), .val (.int p2), .val (.int p3), .val (.int p4), .val (.int p5), .val (.int r_1), .val (.int r_2), .val (.int r_3), .val (.int r_4), .val (.int (2 : Int32)), .val (.ref b5), .val (.ref b13), .val (.ref b25), .unset, .unset, .unset, .unset, .unset, .unset] [(.int r_3), (.int (2 : Int32)), (.ref b41), (.ref b41)])) rfl rfl (hb hby at_94)
  have V53 : Arv Z h53 b41 k41 .char (4 : Int32) [(.int r_1), (.int r_2), (.int (nar .char r_3)), (.int (0 : Int32))] (.int (0 : Int32)) := Arv.set Ar52 q52 Sz52 Nn52 Hh52 Gg52 (fits_nar_char _) W53 2 rfl (Nat.le_of_ble_eq_true rfl)
  rw [own_alnar q3_0] at V53
  have Sa54 : Safe Z own_EL s.vm h49 b41 := (Safe.arv hZ.alike V49 (by decide))
  have CH54 := CH50.wr W53 Sa54
  have CR54 := CHr.trans CR50 (CHr.wr W53 Sa54 CH50)
  have K55 : Keep h0 h53 [] := K51.wr W53 (Or.inr B41)
  have N53 := Fr.snoc X53 N49 G41
  refine own_st st53 ?_
  show own_Go p e below T53 (mkF m 95 #[.val (.int p0), .val (.int p1), .val (.int p2), .val (.int p3), .val (.int p4), .val (.int p5), .val (.int r_1), .val (.int r_2), .val (.int r_3), .val (.int r_4), .val (.int (2 : Int32)), .val (.ref b5), .val (.ref b13), .val (.ref b25), .unset, .unset, .unset, .unset, .unset, .unset] [(.ref b41)]) _
  refine own_st (fun t_ k_ => XS.dup X53.here hx rfl (hb hby at_95) rfl rfl k_) ?_
  show own_Go p e below T53 (mkF m 96 #[.val (.int p0), .val (.int p1), .val (.int p2), .val (.int p3), .val (.int p4), .val (.int p5), .val (.int r_1), .val (.int r_2), .val (.int r_3), .val (.int r_4), .val (.int (2 : Int32)), .val (.ref b5), .val (.ref b13), .val (.ref b25), .unset, .unset, .unset, .unset, .unset, .unset] [(.ref b41), (.ref b41)]) _
  refine own_st (fun t_ k_ => XS.iconst X53.here hx rfl (hb hby at_96) k_) ?_
  show own_Go p e below T53 (mkF m 97 #[.val (.int p0), .val (.int p1), .val (.int p2), .val (.int p3), .val (.int p4), .val (.int p5), .val (.int r_1), .val (.int r_2), .val (.int r_3), .val (.int r_4), .val (.int (2 : Int32)), .val (.ref b5), .val (.ref b13), .val (.ref b25), .unset, .unset, .unset, .unset, .unset, .unset] [(.int (3 : Int32)), (.ref b41), (.ref b41)]) _
  refine own_st (fun t_ k_ => XS.iload X53.here hx rfl (hb hby at_97) rfl k_) ?_
  show own_Go p e below T53 (mkF m 99 #[.val (.int p0), .val (.int p1), .val (.int p2), .val (.int p3), .val (.int p4), .val (.int p5), .val (.int r_1), .val (.int r_2), .val (.int r_3), .val (.int r_4), .val (.int (2 : Int32)), .val (.ref b5), .val (.ref b13), .val (.ref b25), .unset, .unset, .unset, .unset, .unset, .unset] [(.int r_4), (.int (3 : Int32)), (.ref b41), (.ref b41)]) _
  obtain ⟨cl56, Ar56, q56, Sz56, Nn56, Hh56, Gg56⟩ := id V53
  have hin56 : ¬ ((3 : Int32) < 0 ∨ cl56.slots.size ≤ ((3 : Int32)).toNatClampNeg) := inb_of Sz56 ⟨by decide, by decide⟩
  obtain ⟨T57, h57, X57, e57, W57, st57⟩ := stC X53 hx hZ e53 Ar56 (j := (3 : Int32)) hin56 (g := (mkF m 99 #[.val (.int p0), .val (.int p1), .val (.int p2), .val (.int p3), .val (.int p4), .val (.int p5), .val (.int r_1), .val (.int r_2), .val (.int r_3), .val (.int r_4), .val (.int (2 : Int32)), .val (.ref b5), .val (.ref b13), .val (.ref b25), .unset, .unset, .unset, .unset, .unset, .unset] [(.int r_4), (.int (3 : Int32)), (.ref b41), (.ref b41)])) rfl rfl (hb hby at_99)
  have V57 : Arv Z h57 b41 k41 .char (4 : Int32) [(.int r_1), (.int r_2), (.int r_3), (.int (nar .char r_4))] (.int (0 : Int32)) := Arv.set Ar56 q56 Sz56 Nn56 Hh56 Gg56 (fits_nar_char _) W57 3 rfl (Nat.le_of_ble_eq_true rfl)
  rw [own_alnar q4_0] at V57
  have Sa58 : Safe Z own_EL s.vm h53 b41 := (Safe.arv hZ.alike V53 (by decide))
  have CH58 := CH54.wr W57 Sa58
  have CR58 := CHr.trans CR54 (CHr.wr W57 Sa58 CH54)
  have K59 : Keep h0 h57 [] := K55.wr W57 (Or.inr B41)
  have N57 := Fr.snoc X57 N53 G41
  refine own_st st57 ?_
  show own_Go p e below T57 (mkF m 100 #[.val (.int p0), .val (.int p1), .val (.int p2), .val (.int p3), .val (.int p4), .val (.int p5), .val (.int r_1), .val (.int r_2), .val (.int r_3), .val (.int r_4), .val (.int (2 : Int32)), .val (.ref b5), .val (.ref b13), .val (.ref b25), .unset, .unset, .unset, .unset, .unset, .unset] [(.ref b41)]) _
  refine own_st (fun t_ k_ => XS.astore X57.here hx rfl (hb hby at_100) rfl rfl (l' := #[.val (.int p0), .val (.int p1), .val (.int p2), .val (.int p3), .val (.int p4), .val (.int p5), .val (.int r_1), .val (.int r_2), .val (.int r_3), .val (.int r_4), .val (.int (2 : Int32)), .val (.ref b5), .val (.ref b13), .val (.ref b25), .val (.ref b41), .unset, .unset, .unset, .unset, .unset]) rfl k_) ?_
  show own_Go p e below T57 (mkF m 102 #[.val (.int p0), .val (.int p1), .val (.int p2), .val (.int p3), .val (.int p4), .val (.int p5), .val (.int r_1), .val (.int r_2), .val (.int r_3), .val (.int r_4), .val (.int (2 : Int32)), .val (.ref b5), .val (.ref b13), .val (.ref b25), .val (.ref b41), .unset, .unset, .unset, .unset, .unset] []) _
  refine own_st (fun t_ k_ => XS.iload X57.here hx rfl (hb hby at_102) rfl k_) ?_
  show own_Go p e below T57 (mkF m 104 #[.val (.int p0), .val (.int p1), .val (.int p2), .val (.int p3), .val (.int p4), .val (.int p5), .val (.int r_1), .val (.int r_2), .val (.int r_3), .val (.int r_4), .val (.int (2 : Int32)), .val (.ref b5), .val (.ref b13), .val (.ref b25), .val (.ref b41), .unset, .unset, .unset, .unset, .unset] [(.int (2 : Int32))]) _
  refine own_st (fun t_ k_ => XS.iconst X57.here hx rfl (hb hby at_104) k_) ?_
  show own_Go p e below T57 (mkF m 105 #[.val (.int p0), .val (.int p1), .val (.int p2), .val (.int p3), .val (.int p4), .val (.int p5), .val (.int r_1), .val (.int r_2), .val (.int r_3), .val (.int r_4), .val (.int (2 : Int32)), .val (.ref b5), .val (.ref b13), .val (.ref b25), .val (.ref b41), .unset, .unset, .unset, .unset, .unset] [(.int (1 : Int32)), (.int (2 : Int32))]) _
  refine own_st (fun t_ k_ => XS.icmpYes X57.here hx rfl (pc0 := 105) (pc' := 113) rfl (hb hby at_105) rfl (by decide) (by decide) (by decide) k_) ?_
  show own_Go p e below T57 (mkF m 113 #[.val (.int p0), .val (.int p1), .val (.int p2), .val (.int p3), .val (.int p4), .val (.int p5), .val (.int r_1), .val (.int r_2), .val (.int r_3), .val (.int r_4), .val (.int (2 : Int32)), .val (.ref b5), .val (.ref b13), .val (.ref b25), .val (.ref b41), .unset, .unset, .unset, .unset, .unset] []) _
  refine own_st (fun t_ k_ => XS.iload X57.here hx rfl (hb hby at_113) rfl k_) ?_
  show own_Go p e below T57 (mkF m 115 #[.val (.int p0), .val (.int p1), .val (.int p2), .val (.int p3), .val (.int p4), .val (.int p5), .val (.int r_1), .val (.int r_2), .val (.int r_3), .val (.int r_4), .val (.int (2 : Int32)), .val (.ref b5), .val (.ref b13), .val (.ref b25), .val (.ref b41), .unset, .unset, .unset, .unset, .unset] [(.int (2 : Int32))]) _
  refine own_st (fun t_ k_ => XS.iconst X57.here hx rfl (hb hby at_115) k_) ?_
  show own_Go p e below T57 (mkF m 116 #[.val (.int p0), .val (.int p1), .val (.int p2), .val (.int p3), .val (.int p4), .val (.int p5), .val (.int r_1), .val (.int r_2), .val (.int r_3), .val (.int r_4), .val (.int (2 : Int32)), .val (.ref b5), .val (.ref b13), .val (.ref b25), .val (.ref b41), .unset, .unset, .unset, .unset, .unset] [(.int (2 : Int32)), (.int (2 : Int32))]) _
  refine own_st (fun t_ k_ => XS.icmpNo X57.here hx rfl (hb hby at_116) rfl (by decide) k_) ?_
  show own_Go p e below T57 (mkF m 119 #[.val (.int p0), .val (.int p1), .val (.int p2), .val (.int p3), .val (.int p4), .val (.int p5), .val (.int r_1), .val (.int r_2), .val (.int r_3), .val (.int r_4), .val (.int (2 : Int32)), .val (.ref b5), .val (.ref b13), .val (.ref b25), .val (.ref b41), .unset, .unset, .unset, .unset, .unset] []) _
  refine own_st (fun t_ k_ => XS.aload X57.here hx rfl (hb hby at_119) rfl rfl k_) ?_
  show own_Go p e below T57 (mkF m 121 #[.val (.int p0), .val (.int p1), .val (.int p2), .val (.int p3), .val (.int p4), .val (.int p5), .val (.int r_1), .val (.int r_2), .val (.int r_3), .val (.int r_4), .val (.int (2 : Int32)), .val (.ref b5), .val (.ref b13), .val (.ref b25), .val (.ref b41), .unset, .unset, .unset, .unset, .unset] [(.ref b13)]) _
  refine own_st (fun t_ k_ => XS.goto X57.here hx rfl (pc0 := 121) (pc' := 137) rfl (hb hby at_121) (by decide) (by decide) k_) ?_
  show own_Go p e below T57 (mkF m 137 #[.val (.int p0), .val (.int p1), .val (.int p2), .val (.int p3), .val (.int p4), .val (.int p5), .val (.int r_1), .val (.int r_2), .val (.int r_3), .val (.int r_4), .val (.int (2 : Int32)), .val (.ref b5), .val (.ref b13), .val (.ref b25), .val (.ref b41), .unset, .unset, .unset, .unset, .unset] [(.ref b13)]) _
  refine own_st (fun t_ k_ => XS.astore X57.here hx rfl (hb hby at_137) rfl rfl (l' := #[.val (.int p0), .val (.int p1), .val (.int p2), .val (.int p3), .val (.int p4), .val (.int p5), .val (.int r_1), .val (.int r_2), .val (.int r_3), .val (.int r_4), .val (.int (2 : Int32)), .val (.ref b5), .val (.ref b13), .val (.ref b25), .val (.ref b41), .val (.ref b13), .unset, .unset, .unset, .unset]) rfl k_) ?_
  show own_Go p e below T57 (mkF m 139 #[.val (.int p0), .val (.int p1), .val (.int p2), .val (.int p3), .val (.int p4), .val (.int p5), .val (.int r_1), .val (.int r_2), .val (.int r_3), .val (.int r_4), .val (.int (2 : Int32)), .val (.ref b5), .val (.ref b13), .val (.ref b25), .val (.ref b41), .val (.ref b13), .unset, .unset, .unset, .unset] []) _
  have f60 := (Nat.le_trans (Nat.le_trans (Nat.le_trans (Nat.le_trans (Nat.le_trans f40 E41.1) (Keep.of_wr W45).1) (Keep.of_wr W49).1) (Keep.of_wr W53).1) (Keep.of_wr W57).1)
  obtain ⟨T61, h61, X61, e61, E61, A61, D61, -, st61⟩ := newO X57 hx hZ hown (hw _ (List.mem_of_getElem? (i := 6) rfl)) (hw _ (List.mem_of_getElem? (i := 7) rfl)) (hw _ (List.mem_of_getElem? (i := 8) rfl)) e57 (g := (mkF m 139 #[.val (.int p0), .val (.int p1), .val (.int p2), .val (.int p3), .val (.int p4), .val (.int p5), .val (.int r_1), .val (.int r_2), .val (.int r_3), .val (.int r_4), .val (.int (2 : Int32)), .val (.ref b5), .val (.ref b13), .val (.ref b25), .val (.ref b41), .val (.ref b13), .unset, .unset, .unset, .unset] [])) rfl (hb hby at_139) (by decide) (by decide)
  obtain ⟨b61, g61⟩ : ∃ z, z = h57.size := ⟨_, rfl⟩
  rw [← g61] at A61 D61 st61
  have G61 : n0 ≤ b61 := Nat.le_trans f60 (Nat.le_of_eq g61.symm)
  have B61 : h0.size ≤ b61 := Nat.le_trans K59.1 (Nat.le_of_eq g61.symm)
  have CH62 := CH58.ext E61
  have CR62 := CHr.trans CR58 (CHr.ext E61 CH58)
  have K63 : Keep h0 h61 [] := K59.ext E61
  have SF61 : Safe Z own_EL s.vm h61 b61 := Safe.ext E61 CH58 (Safe.new (x := b61) (Nat.le_of_eq g61.symm))
  have D61_coder : Fld Z h61 b61 "java/lang/String" "coder" "B" (.int (0 : Int32)) := D61 (Or.inr (hw _ (List.mem_of_getElem? (i := 32) rfl))) (ty := .byte) (by decide)
  have D61_value : Fld Z h61 b61 "java/lang/String" "value" "[B" .null := D61 (Or.inr (hw _ (List.mem_of_getElem? (i := 34) rfl))) (ty := (.array .byte)) (by decide)
  refine own_st st61 ?_
  show own_Go p e below T61 (mkF m 142 #[.val (.int p0), .val (.int p1), .val (.int p2), .val (.int p3), .val (.int p4), .val (.int p5), .val (.int r_1), .val (.int r_2), .val (.int r_3), .val (.int r_4), .val (.int (2 : Int32)), .val (.ref b5), .val (.ref b13), .val (.ref b25), .val (.ref b41), .val (.ref b13), .unset, .unset, .unset, .unset] [(.ref b61)]) _
  refine own_st (fun t_ k_ => XS.dup X61.here hx rfl (hb hby at_142) rfl rfl k_) ?_
  show own_Go p e below T61 (mkF m 143 #[.val (.int p0), .val (.int p1), .val (.int p2), .val (.int p3), .val (.int p4), .val (.int p5), .val (.int r_1), .val (.int r_2), .val (.int r_3), .val (.int r_4), .val (.int (2 : Int32)), .val (.ref b5), .val (.ref b13), .val (.ref b25), .val (.ref b41), .val (.ref b13), .unset, .unset, .unset, .unset] [(.ref b61), (.ref b61)]) _
  refine own_st (fun t_ k_ => XS.aload X61.here hx rfl (hb hby at_143) rfl rfl k_) ?_
  show own_Go p e below T61 (mkF m 145 #[.val (.int p0), .val (.int p1), .val (.int p2), .val (.int p3), .val (.int p4), .val (.int p5), .val (.int r_1), .val (.int r_2), .val (.int r_3), .val (.int r_4), .val (.int (2 : Int32)), .val (.ref b5), .val (.ref b13), .val (.ref b25), .val (.ref b41), .val (.ref b13), .unset, .unset, .unset, .unset] [(.ref b13), (.ref b61), (.ref b61)]) _
  have hp1 : ∀ c ∈ ([r_1, r_2] : List Int32), ¬ c < 0 ∧ ¬ (255 : Int32) < c := by
    intro c hc
    simp only [List.mem_cons, List.not_mem_nil, or_false] at hc
    rcases hc with rfl | rfl
    · exact own_al255 q1_0
    · exact own_al255 q2_0
  have f64 := (Nat.le_trans f60 E61.1)
  have f65 := ((((((((((V21.ext E25).other W29 (Nat.ne_of_lt (Nat.lt_of_lt_of_le V21.lt (Nat.le_of_eq g25.symm)))).other W33 (Nat.ne_of_lt (Nat.lt_of_lt_of_le V21.lt (Nat.le_of_eq g25.symm)))).other W37 (Nat.ne_of_lt (Nat.lt_of_lt_of_le V21.lt (Nat.le_of_eq g25.symm)))).ext E41).other W45 (Nat.ne_of_lt (Nat.lt_of_lt_of_le ((((V21.ext E25).other W29 (Nat.ne_of_lt (Nat.lt_of_lt_of_le V21.lt (Nat.le_of_eq g25.symm)))).other W33 (Nat.ne_of_lt (Nat.lt_of_lt_of_le V21.lt (Nat.le_of_eq g25.symm)))).other W37 (Nat.ne_of_lt (Nat.lt_of_lt_of_le V21.lt (Nat.le_of_eq g25.symm)))).lt (Nat.le_of_eq g41.symm)))).other W49 (Nat.ne_of_lt (Nat.lt_of_lt_of_le ((((V21.ext E25).other W29 (Nat.ne_of_lt (Nat.lt_of_lt_of_le V21.lt (Nat.le_of_eq g25.symm)))).other W33 (Nat.ne_of_lt (Nat.lt_of_lt_of_le V21.lt (Nat.le_of_eq g25.symm)))).other W37 (Nat.ne_of_lt (Nat.lt_of_lt_of_le V21.lt (Nat.le_of_eq g25.symm)))).lt (Nat.le_of_eq g41.symm)))).other W53 (Nat.ne_of_lt (Nat.lt_of_lt_of_le ((((V21.ext E25).other W29 (Nat.ne_of_lt (Nat.lt_of_lt_of_le V21.lt (Nat.le_of_eq g25.symm)))).other W33 (Nat.ne_of_lt (Nat.lt_of_lt_of_le V21.lt (Nat.le_of_eq g25.symm)))).other W37 (Nat.ne_of_lt (Nat.lt_of_lt_of_le V21.lt (Nat.le_of_eq g25.symm)))).lt (Nat.le_of_eq g41.symm)))).other W57 (Nat.ne_of_lt (Nat.lt_of_lt_of_le ((((V21.ext E25).other W29 (Nat.ne_of_lt (Nat.lt_of_lt_of_le V21.lt (Nat.le_of_eq g25.symm)))).other W33 (Nat.ne_of_lt (Nat.lt_of_lt_of_le V21.lt (Nat.le_of_eq g25.symm)))).other W37 (Nat.ne_of_lt (Nat.lt_of_lt_of_le V21.lt (Nat.le_of_eq g25.symm)))).lt (Nat.le_of_eq g41.symm)))).ext E61)
  have f66 := (((((((((((((((pO.ext E5).wr W9 G5).ext E13).wr W17 G13).wr W21 G13).ext E25).wr W29 G25).wr W33 G25).wr W37 G25).ext E41).wr W45 G41).wr W49 G41).wr W53 G41).wr W57 G41).ext E61)
  obtain ⟨_, _, ⟨T67, L67, k67, n67⟩, -, X67, ⟨Lc67, hQ67, l67, y67, z67⟩, st67⟩ := X61.specialBack hx (y := (⟨"java/lang/String", "<init>", "([C)V"⟩ : MethodName)) rfl hown (mvT hZ (hw _ (List.mem_of_getElem? (i := 9) rfl))) (mvT hZ (hw _ (List.mem_of_getElem? (i := 10) rfl))) (mvT hZ (hw _ (List.mem_of_getElem? (i := 11) rfl))) (by decide) (StrChars.Road.backV (W := 1) hZ hws (kI := 4) (hw _ (List.mem_of_getElem? (i := 7) rfl)) (cs := ([r_1, r_2] : List Int32)) (bs := (([r_1, r_2] : List Int32)).map (fun c => c.toInt8.toInt32)) (n := 2) G61 f64 A61 D61_value D61_coder f65 (pS_COMPACT_STRINGS.ext f66.2) pP5 rfl rfl (by decide) (by decide) hp1 rfl (by decide) (by decide)) (g := (mkF m 145 #[.val (.int p0), .val (.int p1), .val (.int p2), .val (.int p3), .val (.int p4), .val (.int p5), .val (.int r_1), .val (.int r_2), .val (.int r_3), .val (.int r_4), .val (.int (2 : Int32)), .val (.ref b5), .val (.ref b13), .val (.ref b25), .val (.ref b41), .val (.ref b13), .unset, .unset, .unset, .unset] [(.ref b13), (.ref b61), (.ref b61)])) rfl (by rw [hml]; rfl) (Steps.refl _) (a := b61) (argsL := [(.ref b13)]) (rest := [(.ref b61)]) (lenOf pd___C_V rfl) rfl (by show 2 * 0 + _ ≤ _; exact Nat.le_of_eq rfl) (hb hby at_145) (fun _ _ => ⟨rfl, e61, (by decide : 5 + 1 ≤ _), (by decide : 14 + 2 ≤ _)⟩)
  dsimp only [Pt.U, Pt.locs, Pt.cells, Pt.slots] at X67 l67 y67 z67 st67 hQ67
  try dsimp only [Nat.reduceAdd] at y67 z67
  rw [l67, y67, z67] at X67
  obtain ⟨rfl, Nq67, Kq67, q67_E, q67_c, t67, kb67, q67_g, q67_b, q67_n, q67_v, q67_V⟩ := hQ67
  have N67 := Fr.app N57 Nq67
  have Sa68 : ∀ y ∈ [b61], Safe Z own_EL s.vm h61 y := (sfS SF61 sf0)
  have CH68 := CH62.keep Kq67 Sa68
  have CR68 := CHr.trans CR62 (CHr.keep Kq67 Sa68 CH62)
  have K69 : Keep h0 T67.heap [] := K63.trans Kq67 (allS (Or.inr B61) all0)
  have Bf70 : h0.size ≤ t67 := Nat.le_trans K63.1 q67_b
  refine own_tr st67 ?_
  show own_Go p e below T67 (mkF m 148 #[.val (.int p0), .val (.int p1), .val (.int p2), .val (.int p3), .val (.int p4), .val (.int p5), .val (.int r_1), .val (.int r_2), .val (.int r_3), .val (.int r_4), .val (.int (2 : Int32)), .val (.ref b5), .val (.ref b13), .val (.ref b25), .val (.ref b41), .val (.ref b13), .unset, .unset, .unset, .unset] [(.ref b61)]) _
  refine own_st (fun t_ k_ => XS.astore X67.here hx rfl (hb hby at_148) rfl rfl (l' := #[.val (.int p0), .val (.int p1), .val (.int p2), .val (.int p3), .val (.int p4), .val (.int p5), .val (.int r_1), .val (.int r_2), .val (.int r_3), .val (.int r_4), .val (.int (2 : Int32)), .val (.ref b5), .val (.ref b13), .val (.ref b25), .val (.ref b41), .val (.ref b13), .val (.ref b61), .unset, .unset, .unset]) rfl k_) ?_
  show own_Go p e below T67 (mkF m 150 #[.val (.int p0), .val (.int p1), .val (.int p2), .val (.int p3), .val (.int p4), .val (.int p5), .val (.int r_1), .val (.int r_2), .val (.int r_3), .val (.int r_4), .val (.int (2 : Int32)), .val (.ref b5), .val (.ref b13), .val (.ref b25), .val (.ref b41), .val (.ref b13), .val (.ref b61), .unset, .unset, .unset] []) _
  refine own_st (fun t_ k_ => XS.iload X67.here hx rfl (hb hby at_150) rfl k_) ?_
  show own_Go p e below T67 (mkF m 152 #[.val (.int p0), .val (.int p1), .val (.int p2), .val (.int p3), .val (.int p4), .val (.int p5), .val (.int r_1), .val (.int r_2), .val (.int r_3), .val (.int r_4), .val (.int (2 : Int32)), .val (.ref b5), .val (.ref b13), .val (.ref b25), .val (.ref b41), .val (.ref b13), .val (.ref b61), .unset, .unset, .unset] [(.int p5)]) _
  have f71 := (Nat.le_trans f64 Kq67.1)
  obtain ⟨_, _, ⟨T72, L72, k72, n72⟩, -, X72, ⟨Lc72, hQ72, l72, y72, z72⟩, st72⟩ := Jvm.LawKit.callS X67 hx (y := (⟨"com/example/faithful_courier/faithfulcourier/core/NameOfPinLaw", "allowed", "(I)C"⟩ : MethodName)) hown (mvT hZ (hw _ (List.mem_of_getElem? (i := 0) rfl))) (mvT hZ (hw _ (List.mem_of_getElem? (i := 1) rfl))) (mvT hZ (hw _ (List.mem_of_getElem? (i := 2) rfl))) (mvT hZ (hw _ (List.mem_of_getElem? (i := 3) rfl))) (by decide) (backOf (W := 0) (rmAl l Z a0 hw [] p5 T67.heap n0 f71 ) hZ (hw _ (List.mem_of_getElem? (i := 3) rfl)) (hw _ (List.mem_of_getElem? (i := 2) rfl)) (by decide) (by decide)) (g := (mkF m 152 #[.val (.int p0), .val (.int p1), .val (.int p2), .val (.int p3), .val (.int p4), .val (.int p5), .val (.int r_1), .val (.int r_2), .val (.int r_3), .val (.int r_4), .val (.int (2 : Int32)), .val (.ref b5), .val (.ref b13), .val (.ref b25), .val (.ref b41), .val (.ref b13), .val (.ref b61), .unset, .unset, .unset] [(.int p5)])) rfl (by rw [hml]; rfl) (argsL := [(.int p5)]) (rest := []) (lenOf pd__I_C rfl) rfl (by show 2 * 0 + _ ≤ _; exact Nat.le_of_eq rfl) (hb hby at_152) (fun _ _ => ⟨rfl, rfl, (by decide : 6 + 0 ≤ _), (by decide : 16 + 0 ≤ _)⟩)
  dsimp only [Pt.U, Pt.locs, Pt.cells, Pt.slots] at X72 l72 y72 z72 st72 hQ72
  try dsimp only [Nat.reduceAdd] at y72 z72
  rw [l72, y72, z72] at X72
  obtain ⟨r_72, rfl, Nq72, eH72, q72_0⟩ := hQ72
  have N72 := Fr.app N67 Nq72
  refine own_st st72 ?_
  show own_Go p e below T72 (mkF m 155 #[.val (.int p0), .val (.int p1), .val (.int p2), .val (.int p3), .val (.int p4), .val (.int p5), .val (.int r_1), .val (.int r_2), .val (.int r_3), .val (.int r_4), .val (.int (2 : Int32)), .val (.ref b5), .val (.ref b13), .val (.ref b25), .val (.ref b41), .val (.ref b13), .val (.ref b61), .unset, .unset, .unset] [(.int r_72)]) _
  have f73 := (f66.keep Kq67 (allS G61 all0))
  obtain ⟨_, _, ⟨T74, L74, k74, n74⟩, -, X74, ⟨Lc74, hQ74, l74, y74, z74⟩, st74⟩ := Jvm.LawKit.callS X72 hx (y := (⟨"java/lang/String", "valueOf", "(C)Ljava/lang/String;"⟩ : MethodName)) hown (mvT hZ (hw _ (List.mem_of_getElem? (i := 35) rfl))) (mvT hZ (hw _ (List.mem_of_getElem? (i := 36) rfl))) (mvT hZ (hw _ (List.mem_of_getElem? (i := 8) rfl))) (mvT hZ (hw _ (List.mem_of_getElem? (i := 37) rfl))) (by decide) (backOf (W := 0) (rmVo l Z a0 hw [] r_72 zc T67.heap n0 f71 (own_al255 q72_0).2 pS_COMPACT_STRINGS pP5 f73) hZ (hw _ (List.mem_of_getElem? (i := 37) rfl)) (hw _ (List.mem_of_getElem? (i := 8) rfl)) (by decide) (by decide)) (g := (mkF m 155 #[.val (.int p0), .val (.int p1), .val (.int p2), .val (.int p3), .val (.int p4), .val (.int p5), .val (.int r_1), .val (.int r_2), .val (.int r_3), .val (.int r_4), .val (.int (2 : Int32)), .val (.ref b5), .val (.ref b13), .val (.ref b25), .val (.ref b41), .val (.ref b13), .val (.ref b61), .unset, .unset, .unset] [(.int r_72)])) rfl (by rw [hml]; rfl) (argsL := [(.int r_72)]) (rest := []) (lenOf pd__C_Ljava_lang_String_ rfl) rfl (by show 2 * 0 + _ ≤ _; exact Nat.le_of_eq rfl) (hb hby at_155) (fun _ _ => ⟨rfl, eH72, (by decide : 6 + 2 ≤ _), (by decide : 16 + 5 ≤ _)⟩)
  dsimp only [Pt.U, Pt.locs, Pt.cells, Pt.slots] at X74 l74 y74 z74 st74 hQ74
  try dsimp only [Nat.reduceAdd] at y74 z74
  rw [l74, y74, z74] at X74
  obtain ⟨x_74, t_74, kb_74, rfl, Nq74, Kq74, q74_0, q74_1, q74_2, q74_3, q74_4, q74_5, q74_6, q74_7⟩ := hQ74
  have N74 := Fr.app N72 Nq74
  have CH75 := CH68.keep Kq74 sf0
  have CR75 := CHr.trans CR68 (CHr.keep Kq74 sf0 CH68)
  have K76 : Keep h0 T74.heap [] := K69.trans Kq74 all0
  have Bf77 : h0.size ≤ x_74 := Nat.le_trans K69.1 q74_4
  have Bf78 : h0.size ≤ t_74 := Nat.le_trans K69.1 q74_6
  refine own_st st74 ?_
  show own_Go p e below T74 (mkF m 158 #[.val (.int p0), .val (.int p1), .val (.int p2), .val (.int p3), .val (.int p4), .val (.int p5), .val (.int r_1), .val (.int r_2), .val (.int r_3), .val (.int r_4), .val (.int (2 : Int32)), .val (.ref b5), .val (.ref b13), .val (.ref b25), .val (.ref b41), .val (.ref b13), .val (.ref b61), .unset, .unset, .unset] [(.ref x_74)]) _
  have hp2 : ∀ c ∈ ([r_72] : List Int32), ¬ c < 0 ∧ ¬ (255 : Int32) < c := by intro c hc; simp only [List.mem_cons, List.not_mem_nil, or_false] at hc; subst hc; exact own_al255 q72_0
  refine own_st (fun t_ k_ => XS.astore X74.here hx rfl (hb hby at_158) rfl rfl (l' := #[.val (.int p0), .val (.int p1), .val (.int p2), .val (.int p3), .val (.int p4), .val (.int p5), .val (.int r_1), .val (.int r_2), .val (.int r_3), .val (.int r_4), .val (.int (2 : Int32)), .val (.ref b5), .val (.ref b13), .val (.ref b25), .val (.ref b41), .val (.ref b13), .val (.ref b61), .val (.ref x_74), .unset, .unset]) rfl k_) ?_
  show own_Go p e below T74 (mkF m 160 #[.val (.int p0), .val (.int p1), .val (.int p2), .val (.int p3), .val (.int p4), .val (.int p5), .val (.int r_1), .val (.int r_2), .val (.int r_3), .val (.int r_4), .val (.int (2 : Int32)), .val (.ref b5), .val (.ref b13), .val (.ref b25), .val (.ref b41), .val (.ref b13), .val (.ref b61), .val (.ref x_74), .unset, .unset] []) _
  refine own_st (fun t_ k_ => XS.aload X74.here hx rfl (hb hby at_160) rfl rfl k_) ?_
  show own_Go p e below T74 (mkF m 162 #[.val (.int p0), .val (.int p1), .val (.int p2), .val (.int p3), .val (.int p4), .val (.int p5), .val (.int r_1), .val (.int r_2), .val (.int r_3), .val (.int r_4), .val (.int (2 : Int32)), .val (.ref b5), .val (.ref b13), .val (.ref b25), .val (.ref b41), .val (.ref b13), .val (.ref b61), .val (.ref x_74), .unset, .unset] [(.ref b61)]) _
  have f79 := (Nat.le_trans f71 Kq74.1)
  have f80 := (q67_E.keep Kq74)
  have f81 := (q67_v.keep Kq74 nin0)
  have f82 := (q67_c.keep Kq74 nin0)
  have f83 := (q67_V.keep Kq74 nin0)
  have f84 := (f73.keep Kq74 all0)
  have f86 := (Nat.le_trans (Nat.le_trans (Nat.le_trans (Nat.le_trans (Nat.le_trans (Nat.le_trans (Nat.le_trans (Nat.le_trans (Nat.le_trans (Nat.le_trans (Nat.le_trans (Nat.le_trans (Nat.le_trans (Nat.le_trans (Nat.le_trans (Nat.le_trans (Nat.le_trans hK0 E5.1) (Keep.of_wr W9).1) E13.1) (Keep.of_wr W17).1) (Keep.of_wr W21).1) E25.1) (Keep.of_wr W29).1) (Keep.of_wr W33).1) (Keep.of_wr W37).1) E41.1) (Keep.of_wr W45).1) (Keep.of_wr W49).1) (Keep.of_wr W53).1) (Keep.of_wr W57).1) E61.1) Kq67.1) Kq74.1)
  obtain ⟨_, _, ⟨T85, L85, k85, n85⟩, -, Xa85, hSa85, hGa85, ⟨Lc85, hQ85, l85, y85, z85, A85⟩, st85⟩ := Jvm.RoadKit.callSS X74 hx (y := (⟨"com/example/faithful_courier/faithfulcourier/core/Name", "of", "(Ljava/lang/String;)Lcom/example/faithful_courier/faithfulcourier/core/Name;"⟩ : MethodName)) hown (mvT hZ (hw _ (List.mem_of_getElem? (i := 49) rfl))) (mvT hZ (hw _ (List.mem_of_getElem? (i := 50) rfl))) (mvT hZ (hw _ (List.mem_of_getElem? (i := 51) rfl))) (mvT hZ (hw _ (List.mem_of_getElem? (i := 52) rfl))) (by decide) (backOfSH (W := 0) (rmOf2 l Z a0 hw [] b61 t67 kb67 r_1 r_2 zc fm T74.heap n0 f79 f80 f81 f82 f83 hp1 q1_0 q2_0 pS_COMPACT_STRINGS pP5 pS_SIOOBE_FORMATTER rfm f84) hZ (hw _ (List.mem_of_getElem? (i := 52) rfl)) (hw _ (List.mem_of_getElem? (i := 51) rfl)) (by decide) (by decide) hEL CH75) (g := (mkF m 162 #[.val (.int p0), .val (.int p1), .val (.int p2), .val (.int p3), .val (.int p4), .val (.int p5), .val (.int r_1), .val (.int r_2), .val (.int r_3), .val (.int r_4), .val (.int (2 : Int32)), .val (.ref b5), .val (.ref b13), .val (.ref b25), .val (.ref b41), .val (.ref b13), .val (.ref b61), .val (.ref x_74), .unset, .unset] [(.ref b61)])) rfl (by rw [hml]; rfl) (argsL := [(.ref b61)]) (rest := []) (lenOf pd__Ljava_lang_String__Lcom_example_faithful_courier_faithfulcourier_core_Name_ rfl) rfl (by show 2 * 0 + _ ≤ _; exact Nat.le_of_eq rfl) (hb hby at_162) (fun _ _ => ⟨rfl, rfl, (by decide : 8 + 3 ≤ _), (by decide : 21 + 21 ≤ _)⟩)
  dsimp only [Pt.U, Pt.locs, Pt.cells, Pt.slots] at Xa85 hSa85 hGa85 l85 y85 z85 A85 st85 hQ85
  try dsimp only [Nat.reduceAdd] at y85 z85
  rw [l85, y85, z85] at Xa85
  obtain ⟨X85, hS, hZ, hown⟩ := rebS hS f86 Xa85 hSa85 hGa85 hZ hown
  obtain ⟨b_85, rfl, Nq85, Kq85, q85_0, q85_1, q85_2, q85_3⟩ := hQ85
  have N85 := Fr.app N74 Nq85
  have CH87 := A85.1
  have CR87 := CHr.trans CR75 (A85)
  have K88 : Keep h0 T85.heap [] := K76.trans Kq85 all0
  have hK85 : T85.heap.size ≤ T85.heap.size := Nat.le_refl _
  have Bf89 : h0.size ≤ b_85 := Nat.le_trans K76.1 q85_2
  refine own_tr st85 ?_
  show own_Go p e below T85 (mkF m 165 #[.val (.int p0), .val (.int p1), .val (.int p2), .val (.int p3), .val (.int p4), .val (.int p5), .val (.int r_1), .val (.int r_2), .val (.int r_3), .val (.int r_4), .val (.int (2 : Int32)), .val (.ref b5), .val (.ref b13), .val (.ref b25), .val (.ref b41), .val (.ref b13), .val (.ref b61), .val (.ref x_74), .unset, .unset] [(.ref b_85)]) _
  refine own_st (fun t_ k_ => XS.astore X85.here hx rfl (hb hby at_165) rfl rfl (l' := #[.val (.int p0), .val (.int p1), .val (.int p2), .val (.int p3), .val (.int p4), .val (.int p5), .val (.int r_1), .val (.int r_2), .val (.int r_3), .val (.int r_4), .val (.int (2 : Int32)), .val (.ref b5), .val (.ref b13), .val (.ref b25), .val (.ref b41), .val (.ref b13), .val (.ref b61), .val (.ref x_74), .val (.ref b_85), .unset]) rfl k_) ?_
  show own_Go p e below T85 (mkF m 167 #[.val (.int p0), .val (.int p1), .val (.int p2), .val (.int p3), .val (.int p4), .val (.int p5), .val (.int r_1), .val (.int r_2), .val (.int r_3), .val (.int r_4), .val (.int (2 : Int32)), .val (.ref b5), .val (.ref b13), .val (.ref b25), .val (.ref b41), .val (.ref b13), .val (.ref b61), .val (.ref x_74), .val (.ref b_85), .unset] []) _
  refine own_st (fun t_ k_ => XS.aload X85.here hx rfl (hb hby at_167) rfl rfl k_) ?_
  show own_Go p e below T85 (mkF m 169 #[.val (.int p0), .val (.int p1), .val (.int p2), .val (.int p3), .val (.int p4), .val (.int p5), .val (.int r_1), .val (.int r_2), .val (.int r_3), .val (.int r_4), .val (.int (2 : Int32)), .val (.ref b5), .val (.ref b13), .val (.ref b25), .val (.ref b41), .val (.ref b13), .val (.ref b61), .val (.ref x_74), .val (.ref b_85), .unset] [(.ref x_74)]) _
  have f90 := (Nat.le_trans f79 Kq85.1)
  have f91 := (q74_0.keep Kq85)
  have f92 := (q74_1.keep Kq85 nin0)
  have f93 := (q74_2.keep Kq85 nin0)
  have f94 := (q74_3.keep Kq85 nin0)
  have f95 := (f84.keep Kq85 all0)
  obtain ⟨_, _, ⟨T96, L96, k96, n96⟩, -, Xa96, hSa96, hGa96, ⟨Lc96, hQ96, l96, y96, z96, A96⟩, st96⟩ := Jvm.RoadKit.callSS X85 hx (y := (⟨"com/example/faithful_courier/faithfulcourier/core/Name", "of", "(Ljava/lang/String;)Lcom/example/faithful_courier/faithfulcourier/core/Name;"⟩ : MethodName)) hown (mvT hZ (hw _ (List.mem_of_getElem? (i := 49) rfl))) (mvT hZ (hw _ (List.mem_of_getElem? (i := 50) rfl))) (mvT hZ (hw _ (List.mem_of_getElem? (i := 51) rfl))) (mvT hZ (hw _ (List.mem_of_getElem? (i := 52) rfl))) (by decide) (backOfSH (W := 0) (rmOf1 l Z a0 hw [] x_74 t_74 kb_74 r_72 zc fm T85.heap n0 f90 f91 f92 f93 f94 hp2 q72_0 pS_COMPACT_STRINGS pP5 pS_SIOOBE_FORMATTER rfm f95) hZ (hw _ (List.mem_of_getElem? (i := 52) rfl)) (hw _ (List.mem_of_getElem? (i := 51) rfl)) (by decide) (by decide) hEL CH87) (g := (mkF m 169 #[.val (.int p0), .val (.int p1), .val (.int p2), .val (.int p3), .val (.int p4), .val (.int p5), .val (.int r_1), .val (.int r_2), .val (.int r_3), .val (.int r_4), .val (.int (2 : Int32)), .val (.ref b5), .val (.ref b13), .val (.ref b25), .val (.ref b41), .val (.ref b13), .val (.ref b61), .val (.ref x_74), .val (.ref b_85), .unset] [(.ref x_74)])) rfl (by rw [hml]; rfl) (argsL := [(.ref x_74)]) (rest := []) (lenOf pd__Ljava_lang_String__Lcom_example_faithful_courier_faithfulcourier_core_Name_ rfl) rfl (by show 2 * 0 + _ ≤ _; exact Nat.le_of_eq rfl) (hb hby at_169) (fun _ _ => ⟨rfl, rfl, (by decide : 11 + 3 ≤ _), (by decide : 42 + 21 ≤ _)⟩)
  dsimp only [Pt.U, Pt.locs, Pt.cells, Pt.slots] at Xa96 hSa96 hGa96 l96 y96 z96 A96 st96 hQ96
  try dsimp only [Nat.reduceAdd] at y96 z96
  rw [l96, y96, z96] at Xa96
  obtain ⟨X96, hS, hZ, hown⟩ := rebS hS hK85 Xa96 hSa96 hGa96 hZ hown
  obtain ⟨b_96, rfl, Nq96, Kq96, q96_0, q96_1, q96_2, q96_3⟩ := hQ96
  have N96 := Fr.app N85 Nq96
  have CH97 := A96.1
  have CR97 := CHr.trans CR87 (A96)
  have K98 : Keep h0 T96.heap [] := K88.trans Kq96 all0
  have hK96 : T96.heap.size ≤ T96.heap.size := Nat.le_refl _
  have Bf99 : h0.size ≤ b_96 := Nat.le_trans K88.1 q96_2
  refine own_tr st96 ?_
  show own_Go p e below T96 (mkF m 172 #[.val (.int p0), .val (.int p1), .val (.int p2), .val (.int p3), .val (.int p4), .val (.int p5), .val (.int r_1), .val (.int r_2), .val (.int r_3), .val (.int r_4), .val (.int (2 : Int32)), .val (.ref b5), .val (.ref b13), .val (.ref b25), .val (.ref b41), .val (.ref b13), .val (.ref b61), .val (.ref x_74), .val (.ref b_85), .unset] [(.ref b_96)]) _
  refine own_st (fun t_ k_ => XS.astore X96.here hx rfl (hb hby at_172) rfl rfl (l' := #[.val (.int p0), .val (.int p1), .val (.int p2), .val (.int p3), .val (.int p4), .val (.int p5), .val (.int r_1), .val (.int r_2), .val (.int r_3), .val (.int r_4), .val (.int (2 : Int32)), .val (.ref b5), .val (.ref b13), .val (.ref b25), .val (.ref b41), .val (.ref b13), .val (.ref b61), .val (.ref x_74), .val (.ref b_85), .val (.ref b_96)]) rfl k_) ?_
  show own_Go p e below T96 (mkF m 174 #[.val (.int p0), .val (.int p1), .val (.int p2), .val (.int p3), .val (.int p4), .val (.int p5), .val (.int r_1), .val (.int r_2), .val (.int r_3), .val (.int r_4), .val (.int (2 : Int32)), .val (.ref b5), .val (.ref b13), .val (.ref b25), .val (.ref b41), .val (.ref b13), .val (.ref b61), .val (.ref x_74), .val (.ref b_85), .val (.ref b_96)] []) _
  refine own_st (fun t_ k_ => XS.aload X96.here hx rfl (hb hby at_174) rfl rfl k_) ?_
  show own_Go p e below T96 (mkF m 176 #[.val (.int p0), .val (.int p1), .val (.int p2), .val (.int p3), .val (.int p4), .val (.int p5), .val (.int r_1), .val (.int r_2), .val (.int r_3), .val (.int r_4), .val (.int (2 : Int32)), .val (.ref b5), .val (.ref b13), .val (.ref b25), .val (.ref b41), .val (.ref b13), .val (.ref b61), .val (.ref x_74), .val (.ref b_85), .val (.ref b_96)] [(.ref b_85)]) _
  have f100 := (Nat.le_trans f90 Kq96.1)
  have f101 := (q85_1.keep Kq96 nin0)
  have f103 := (q85_0.keep Kq96)
  obtain ⟨cq102, kq102, qa102, qb102, qc102⟩ := isOf hZ rfl f103
  obtain ⟨_, _, ⟨T102, L102, k102, n102⟩, -, X102, ⟨Lc102, hQ102, l102, y102, z102⟩, st102⟩ := X96.virtualBack hx (y := (⟨"com/example/faithful_courier/faithfulcourier/core/Name", "toString", "()Ljava/lang/String;"⟩ : MethodName)) (z := (⟨"com/example/faithful_courier/faithfulcourier/core/Name", "toString", "()Ljava/lang/String;"⟩ : MethodName)) hown (mvT hZ (hw _ (List.mem_of_getElem? (i := 107) rfl))) (mvT hZ (hw _ (List.mem_of_getElem? (i := 108) rfl))) (notFace_of_selects (args := #[]) (mvT hZ (hw _ (List.mem_of_getElem? (i := 110) rfl)))) (mvT hZ (hw _ (List.mem_of_getElem? (i := 110) rfl))) (mvT hZ (hw _ (List.mem_of_getElem? (i := 109) rfl))) (by decide) (backOf (W := 0) (rmTs l Z a0 hw [] b_85 b61 T96.heap n0 f100 f101) hZ (hw _ (List.mem_of_getElem? (i := 111) rfl)) (hw _ (List.mem_of_getElem? (i := 51) rfl)) (by decide) (by decide)) qa102 qc102 (g := (mkF m 176 #[.val (.int p0), .val (.int p1), .val (.int p2), .val (.int p3), .val (.int p4), .val (.int p5), .val (.int r_1), .val (.int r_2), .val (.int r_3), .val (.int r_4), .val (.int (2 : Int32)), .val (.ref b5), .val (.ref b13), .val (.ref b25), .val (.ref b41), .val (.ref b13), .val (.ref b61), .val (.ref x_74), .val (.ref b_85), .val (.ref b_96)] [(.ref b_85)])) rfl (by rw [hml]; rfl) (Steps.refl _) (argsL := []) (rest := []) (lenOf pd___Ljava_lang_String_ rfl) rfl (by show 2 * 0 + _ ≤ _; exact Nat.le_of_eq rfl) (hb hby at_176) (fun _ _ => ⟨rfl, rfl, (by decide : 14 + 0 ≤ _), (by decide : 63 + 0 ≤ _)⟩)
  dsimp only [Pt.U, Pt.locs, Pt.cells, Pt.slots] at X102 l102 y102 z102 st102 hQ102
  try dsimp only [Nat.reduceAdd] at y102 z102
  rw [l102, y102, z102] at X102
  obtain ⟨rfl, Nq102, eH102⟩ := hQ102
  have N102 := Fr.app N96 Nq102
  refine own_tr st102 ?_
  show own_Go p e below T102 (mkF m 179 #[.val (.int p0), .val (.int p1), .val (.int p2), .val (.int p3), .val (.int p4), .val (.int p5), .val (.int r_1), .val (.int r_2), .val (.int r_3), .val (.int r_4), .val (.int (2 : Int32)), .val (.ref b5), .val (.ref b13), .val (.ref b25), .val (.ref b41), .val (.ref b13), .val (.ref b61), .val (.ref x_74), .val (.ref b_85), .val (.ref b_96)] [(.ref b61)]) _
  refine own_st (fun t_ k_ => XS.aload X102.here hx rfl (hb hby at_179) rfl rfl k_) ?_
  show own_Go p e below T102 (mkF m 181 #[.val (.int p0), .val (.int p1), .val (.int p2), .val (.int p3), .val (.int p4), .val (.int p5), .val (.int r_1), .val (.int r_2), .val (.int r_3), .val (.int r_4), .val (.int (2 : Int32)), .val (.ref b5), .val (.ref b13), .val (.ref b25), .val (.ref b41), .val (.ref b13), .val (.ref b61), .val (.ref x_74), .val (.ref b_85), .val (.ref b_96)] [(.ref b61), (.ref b61)]) _
  have hcd104 : StrChars.Road.CodA ([r_1, r_2] : List Int32) 0 (2 : Int32) ((([r_1, r_2] : List Int32).map (fun c => c.toInt8.toInt32)).map Value.int) := StrChars.Road.codOf rfl (fun x hx => (hp1 x hx).2)
  have hbd104 : ∀ x ∈ ([r_1, r_2] : List Int32), ¬ x < 0 ∧ ¬ (65535 : Int32) < x := own_up _ hp1
  have f105 := ((f80.keep Kq85).keep Kq96)
  have f106 := ((f81.keep Kq85 nin0).keep Kq96 nin0)
  have f107 := ((f82.keep Kq85 nin0).keep Kq96 nin0)
  have f108 := ((f83.keep Kq85 nin0).keep Kq96 nin0)
  have f109 := (f95.keep Kq96 all0)
  obtain ⟨cq110, kq110, qa110, qb110, qc110⟩ := isOf hZ eH102 f105
  obtain ⟨_, _, ⟨T110, L110, k110, n110⟩, -, X110, ⟨Lc110, hQ110, l110, y110, z110⟩, st110⟩ := X102.virtualBack hx (y := (⟨"java/lang/String", "equals", "(Ljava/lang/Object;)Z"⟩ : MethodName)) (z := (⟨"java/lang/String", "equals", "(Ljava/lang/Object;)Z"⟩ : MethodName)) hown (mvT hZ (hw _ (List.mem_of_getElem? (i := 112) rfl))) (mvT hZ (hw _ (List.mem_of_getElem? (i := 113) rfl))) (notFace_of_selects (args := #[]) (mvT hZ (hw _ (List.mem_of_getElem? (i := 115) rfl)))) (mvT hZ (hw _ (List.mem_of_getElem? (i := 115) rfl))) (mvT hZ (hw _ (List.mem_of_getElem? (i := 114) rfl))) (by decide) (StrChars.Road.eqW (W := 0) hZ heq (kI := 4) (hw _ (List.mem_of_getElem? (i := 7) rfl)) f105 f106 f107 f108 hcd104 hbd104 (Nat.le_of_ble_eq_true rfl) f105 f106 f107 f108 hcd104 hbd104 (Nat.le_of_ble_eq_true rfl) (pS_COMPACT_STRINGS.ext f109.2) pP5 (by decide) (by decide)) qa110 qc110 (g := (mkF m 181 #[.val (.int p0), .val (.int p1), .val (.int p2), .val (.int p3), .val (.int p4), .val (.int p5), .val (.int r_1), .val (.int r_2), .val (.int r_3), .val (.int r_4), .val (.int (2 : Int32)), .val (.ref b5), .val (.ref b13), .val (.ref b25), .val (.ref b41), .val (.ref b13), .val (.ref b61), .val (.ref x_74), .val (.ref b_85), .val (.ref b_96)] [(.ref b61), (.ref b61)])) rfl (by rw [hml]; rfl) (Steps.refl _) (argsL := [(.ref b61)]) (rest := []) (lenOf pd__Ljava_lang_Object__Z rfl) rfl (by show 2 * 0 + _ ≤ _; exact Nat.le_of_eq rfl) (hb hby at_181) (fun _ _ => ⟨rfl, eH102, (by decide : 14 + 0 ≤ _), (by decide : 63 + 0 ≤ _)⟩)
  dsimp only [Pt.U, Pt.locs, Pt.cells, Pt.slots] at X110 l110 y110 z110 st110 hQ110
  try dsimp only [Nat.reduceAdd] at y110 z110
  rw [l110, y110, z110] at X110
  obtain ⟨hcase110, rfl, eH110⟩ := hQ110
  have N110 := Fr.app N102 (Fr.nil n0)
  have hv110 : _ = some (Value.int 1) := hcase110.elim (fun q => q.1) (fun q => absurd rfl q.2)
  subst hv110
  refine own_tr st110 ?_
  show own_Go p e below T110 (mkF m 184 #[.val (.int p0), .val (.int p1), .val (.int p2), .val (.int p3), .val (.int p4), .val (.int p5), .val (.int r_1), .val (.int r_2), .val (.int r_3), .val (.int r_4), .val (.int (2 : Int32)), .val (.ref b5), .val (.ref b13), .val (.ref b25), .val (.ref b41), .val (.ref b13), .val (.ref b61), .val (.ref x_74), .val (.ref b_85), .val (.ref b_96)] [(.int (1 : Int32))]) _
  refine own_st (fun t_ k_ => XS.ifNo X110.here hx rfl (hb hby at_184) rfl (by decide) k_) ?_
  show own_Go p e below T110 (mkF m 187 #[.val (.int p0), .val (.int p1), .val (.int p2), .val (.int p3), .val (.int p4), .val (.int p5), .val (.int r_1), .val (.int r_2), .val (.int r_3), .val (.int r_4), .val (.int (2 : Int32)), .val (.ref b5), .val (.ref b13), .val (.ref b25), .val (.ref b41), .val (.ref b13), .val (.ref b61), .val (.ref x_74), .val (.ref b_85), .val (.ref b_96)] []) _
  refine own_st (fun t_ k_ => XS.aload X110.here hx rfl (hb hby at_187) rfl rfl k_) ?_
  show own_Go p e below T110 (mkF m 189 #[.val (.int p0), .val (.int p1), .val (.int p2), .val (.int p3), .val (.int p4), .val (.int p5), .val (.int r_1), .val (.int r_2), .val (.int r_3), .val (.int r_4), .val (.int (2 : Int32)), .val (.ref b5), .val (.ref b13), .val (.ref b25), .val (.ref b41), .val (.ref b13), .val (.ref b61), .val (.ref x_74), .val (.ref b_85), .val (.ref b_96)] [(.ref b_85)]) _
  refine own_st (fun t_ k_ => XS.aload X110.here hx rfl (hb hby at_189) rfl rfl k_) ?_
  show own_Go p e below T110 (mkF m 191 #[.val (.int p0), .val (.int p1), .val (.int p2), .val (.int p3), .val (.int p4), .val (.int p5), .val (.int r_1), .val (.int r_2), .val (.int r_3), .val (.int r_4), .val (.int (2 : Int32)), .val (.ref b5), .val (.ref b13), .val (.ref b25), .val (.ref b41), .val (.ref b13), .val (.ref b61), .val (.ref x_74), .val (.ref b_85), .val (.ref b_96)] [(.ref b_96), (.ref b_85)]) _
  have f111 := (f91.keep Kq96)
  have f112 := (f92.keep Kq96 nin0)
  have f113 := (f93.keep Kq96 nin0)
  have f114 := (f94.keep Kq96 nin0)
  obtain ⟨cq115, kq115, qa115, qb115, qc115⟩ := isOf hZ eH110 f103
  obtain ⟨_, _, ⟨T115, L115, k115, n115⟩, -, X115, ⟨Lc115, hQ115, l115, y115, z115⟩, st115⟩ := X110.virtualBack hx (y := (⟨"com/example/faithful_courier/faithfulcourier/core/Name", "equals", "(Ljava/lang/Object;)Z"⟩ : MethodName)) (z := (⟨"com/example/faithful_courier/faithfulcourier/core/Name", "equals", "(Ljava/lang/Object;)Z"⟩ : MethodName)) hown (mvT hZ (hw _ (List.mem_of_getElem? (i := 117) rfl))) (mvT hZ (hw _ (List.mem_of_getElem? (i := 118) rfl))) (notFace_of_selects (args := #[]) (mvT hZ (hw _ (List.mem_of_getElem? (i := 120) rfl)))) (mvT hZ (hw _ (List.mem_of_getElem? (i := 120) rfl))) (mvT hZ (hw _ (List.mem_of_getElem? (i := 119) rfl))) (by decide) (backOf (W := 0) (rmEq2 l Z a0 hw [] b_85 b_96 b61 t67 kb67 x_74 t_74 kb_74 r_1 r_2 r_72 zc fm T96.heap n0 f100 f101 q96_0 q96_1 f105 f106 f107 f108 hp1 f111 f112 f113 f114 hp2 pS_COMPACT_STRINGS pP5 pS_SIOOBE_FORMATTER rfm f109) hZ (hw _ (List.mem_of_getElem? (i := 121) rfl)) (hw _ (List.mem_of_getElem? (i := 51) rfl)) (by decide) (by decide)) qa115 qc115 (g := (mkF m 191 #[.val (.int p0), .val (.int p1), .val (.int p2), .val (.int p3), .val (.int p4), .val (.int p5), .val (.int r_1), .val (.int r_2), .val (.int r_3), .val (.int r_4), .val (.int (2 : Int32)), .val (.ref b5), .val (.ref b13), .val (.ref b25), .val (.ref b41), .val (.ref b13), .val (.ref b61), .val (.ref x_74), .val (.ref b_85), .val (.ref b_96)] [(.ref b_96), (.ref b_85)])) rfl (by rw [hml]; rfl) (Steps.refl _) (argsL := [(.ref b_96)]) (rest := []) (lenOf pd__Ljava_lang_Object__Z rfl) rfl (by show 2 * 0 + _ ≤ _; exact Nat.le_of_eq rfl) (hb hby at_191) (fun _ _ => ⟨rfl, eH110, (by decide : 14 + 0 ≤ _), (by decide : 63 + 0 ≤ _)⟩)
  dsimp only [Pt.U, Pt.locs, Pt.cells, Pt.slots] at X115 l115 y115 z115 st115 hQ115
  try dsimp only [Nat.reduceAdd] at y115 z115
  rw [l115, y115, z115] at X115
  obtain ⟨r_115, rfl, Nq115, eH115, q115_0⟩ := hQ115
  have N115 := Fr.app N110 Nq115
  refine own_tr st115 ?_
  show own_Go p e below T115 (mkF m 194 #[.val (.int p0), .val (.int p1), .val (.int p2), .val (.int p3), .val (.int p4), .val (.int p5), .val (.int r_1), .val (.int r_2), .val (.int r_3), .val (.int r_4), .val (.int (2 : Int32)), .val (.ref b5), .val (.ref b13), .val (.ref b25), .val (.ref b41), .val (.ref b13), .val (.ref b61), .val (.ref x_74), .val (.ref b_85), .val (.ref b_96)] [(.int r_115)]) _
  refine own_st (fun t_ k_ => XS.aload X115.here hx rfl (hb hby at_194) rfl rfl k_) ?_
  show own_Go p e below T115 (mkF m 196 #[.val (.int p0), .val (.int p1), .val (.int p2), .val (.int p3), .val (.int p4), .val (.int p5), .val (.int r_1), .val (.int r_2), .val (.int r_3), .val (.int r_4), .val (.int (2 : Int32)), .val (.ref b5), .val (.ref b13), .val (.ref b25), .val (.ref b41), .val (.ref b13), .val (.ref b61), .val (.ref x_74), .val (.ref b_85), .val (.ref b_96)] [(.ref b61), (.int r_115)]) _
  refine own_st (fun t_ k_ => XS.aload X115.here hx rfl (hb hby at_196) rfl rfl k_) ?_
  show own_Go p e below T115 (mkF m 198 #[.val (.int p0), .val (.int p1), .val (.int p2), .val (.int p3), .val (.int p4), .val (.int p5), .val (.int r_1), .val (.int r_2), .val (.int r_3), .val (.int r_4), .val (.int (2 : Int32)), .val (.ref b5), .val (.ref b13), .val (.ref b25), .val (.ref b41), .val (.ref b13), .val (.ref b61), .val (.ref x_74), .val (.ref b_85), .val (.ref b_96)] [(.ref x_74), (.ref b61), (.int r_115)]) _
  have hcd116 : StrChars.Road.CodA ([r_72] : List Int32) 0 (1 : Int32) ((([r_72] : List Int32).map (fun c => c.toInt8.toInt32)).map Value.int) := StrChars.Road.codOf rfl (fun x hx => (hp2 x hx).2)
  have hbd116 : ∀ x ∈ ([r_72] : List Int32), ¬ x < 0 ∧ ¬ (65535 : Int32) < x := own_up _ hp2
  obtain ⟨cq117, kq117, qa117, qb117, qc117⟩ := isOf hZ eH115 f105
  obtain ⟨_, _, ⟨T117, L117, k117, n117⟩, -, X117, ⟨Lc117, hQ117, l117, y117, z117⟩, st117⟩ := X115.virtualBack hx (y := (⟨"java/lang/String", "equals", "(Ljava/lang/Object;)Z"⟩ : MethodName)) (z := (⟨"java/lang/String", "equals", "(Ljava/lang/Object;)Z"⟩ : MethodName)) hown (mvT hZ (hw _ (List.mem_of_getElem? (i := 112) rfl))) (mvT hZ (hw _ (List.mem_of_getElem? (i := 113) rfl))) (notFace_of_selects (args := #[]) (mvT hZ (hw _ (List.mem_of_getElem? (i := 115) rfl)))) (mvT hZ (hw _ (List.mem_of_getElem? (i := 115) rfl))) (mvT hZ (hw _ (List.mem_of_getElem? (i := 114) rfl))) (by decide) (StrChars.Road.eqW (W := 1) hZ heq (kI := 4) (hw _ (List.mem_of_getElem? (i := 7) rfl)) f105 f106 f107 f108 hcd104 hbd104 (Nat.le_of_ble_eq_true rfl) f111 f112 f113 f114 hcd116 hbd116 (Nat.le_of_ble_eq_true rfl) (pS_COMPACT_STRINGS.ext f109.2) pP5 (by decide) (by decide)) qa117 qc117 (g := (mkF m 198 #[.val (.int p0), .val (.int p1), .val (.int p2), .val (.int p3), .val (.int p4), .val (.int p5), .val (.int r_1), .val (.int r_2), .val (.int r_3), .val (.int r_4), .val (.int (2 : Int32)), .val (.ref b5), .val (.ref b13), .val (.ref b25), .val (.ref b41), .val (.ref b13), .val (.ref b61), .val (.ref x_74), .val (.ref b_85), .val (.ref b_96)] [(.ref x_74), (.ref b61), (.int r_115)])) rfl (by rw [hml]; rfl) (Steps.refl _) (argsL := [(.ref x_74)]) (rest := [(.int r_115)]) (lenOf pd__Ljava_lang_Object__Z rfl) rfl (by show 2 * 0 + _ ≤ _; exact Nat.le_of_eq rfl) (hb hby at_198) (fun _ _ => ⟨rfl, eH115, (by decide : 14 + 0 ≤ _), (by decide : 63 + 0 ≤ _)⟩)
  dsimp only [Pt.U, Pt.locs, Pt.cells, Pt.slots] at X117 l117 y117 z117 st117 hQ117
  try dsimp only [Nat.reduceAdd] at y117 z117
  rw [l117, y117, z117] at X117
  obtain ⟨hcase117, rfl, eH117⟩ := hQ117
  have N117 := Fr.app N115 (Fr.nil n0)
  rcases q115_0 with hy | hy
  · skip
    have hv117 : _ = some (Value.int 1) := hcase117.elim (fun q => q.1) (fun q => absurd hy.2 q.2)
    subst hv117
    refine own_tr st117 ?_
    show own_Go p e below T117 (mkF m 201 #[.val (.int p0), .val (.int p1), .val (.int p2), .val (.int p3), .val (.int p4), .val (.int p5), .val (.int r_1), .val (.int r_2), .val (.int r_3), .val (.int r_4), .val (.int (2 : Int32)), .val (.ref b5), .val (.ref b13), .val (.ref b25), .val (.ref b41), .val (.ref b13), .val (.ref b61), .val (.ref x_74), .val (.ref b_85), .val (.ref b_96)] [(.int (1 : Int32)), (.int r_115)]) _
    have hrr := hy.1
    refine own_st (fun t_ k_ => XS.icmpNo X117.here hx rfl (hb hby at_201) rfl (teq hrr).2 k_) ?_
    show own_Go p e below T117 (mkF m 204 #[.val (.int p0), .val (.int p1), .val (.int p2), .val (.int p3), .val (.int p4), .val (.int p5), .val (.int r_1), .val (.int r_2), .val (.int r_3), .val (.int r_4), .val (.int (2 : Int32)), .val (.ref b5), .val (.ref b13), .val (.ref b25), .val (.ref b41), .val (.ref b13), .val (.ref b61), .val (.ref x_74), .val (.ref b_85), .val (.ref b_96)] []) _
    refine own_st (fun t_ k_ => XS.iconst X117.here hx rfl (hb hby at_204) k_) ?_
    show own_Go p e below T117 (mkF m 205 #[.val (.int p0), .val (.int p1), .val (.int p2), .val (.int p3), .val (.int p4), .val (.int p5), .val (.int r_1), .val (.int r_2), .val (.int r_3), .val (.int r_4), .val (.int (2 : Int32)), .val (.ref b5), .val (.ref b13), .val (.ref b25), .val (.ref b41), .val (.ref b13), .val (.ref b61), .val (.ref x_74), .val (.ref b_85), .val (.ref b_96)] [(.int (1 : Int32))]) _
    refine own_st (fun t_ k_ => XS.goto X117.here hx rfl (pc0 := 205) (pc' := 209) rfl (hb hby at_205) (by decide) (by decide) k_) ?_
    show own_Go p e below T117 (mkF m 209 #[.val (.int p0), .val (.int p1), .val (.int p2), .val (.int p3), .val (.int p4), .val (.int p5), .val (.int r_1), .val (.int r_2), .val (.int r_3), .val (.int r_4), .val (.int (2 : Int32)), .val (.ref b5), .val (.ref b13), .val (.ref b25), .val (.ref b41), .val (.ref b13), .val (.ref b61), .val (.ref x_74), .val (.ref b_85), .val (.ref b_96)] [(.int (1 : Int32))]) _
    obtain ⟨fs, hr, hrun, hended, hRW⟩ := X117.leaveW hS (by rw [eH117]; exact hK96) (v := some (.int (1 : Int32))) (fun h => by rw [Bd.returns] at h; cases h)
    have hCend : CHr Z own_EL s.vm s.heap T117.vm T117.heap := by
      rw [hh, eH117]
      exact CHr.trans CR97 (CHv.at X117 hZ hEL CH97)
    refine own_fin (retN X117 hx (t := .boolean) Bd.returns (by simp) (hb hby at_209) hr) ⟨hrun, hended, _, _, rfl, ?_, hCend, hRW.1, hRW.2.1, hRW.2.2.1, hRW.2.2.2.mono (by decide) (by decide)⟩
    show Q_rmLaw2 Z p0 p1 p2 p3 p4 p5 zc fm h0 n0 _ T117.heap _
    rw [eH117]
    exact ⟨rfl, N117, K98⟩
  · skip
    have hv117 : _ = some (Value.int 0) := hcase117.elim (fun q => absurd q.2 hy.2) (fun q => q.1)
    subst hv117
    refine own_tr st117 ?_
    show own_Go p e below T117 (mkF m 201 #[.val (.int p0), .val (.int p1), .val (.int p2), .val (.int p3), .val (.int p4), .val (.int p5), .val (.int r_1), .val (.int r_2), .val (.int r_3), .val (.int r_4), .val (.int (2 : Int32)), .val (.ref b5), .val (.ref b13), .val (.ref b25), .val (.ref b41), .val (.ref b13), .val (.ref b61), .val (.ref x_74), .val (.ref b_85), .val (.ref b_96)] [(.int (0 : Int32)), (.int r_115)]) _
    have hrr := hy.1
    refine own_st (fun t_ k_ => XS.icmpNo X117.here hx rfl (hb hby at_201) rfl (teq hrr).2 k_) ?_
    show own_Go p e below T117 (mkF m 204 #[.val (.int p0), .val (.int p1), .val (.int p2), .val (.int p3), .val (.int p4), .val (.int p5), .val (.int r_1), .val (.int r_2), .val (.int r_3), .val (.int r_4), .val (.int (2 : Int32)), .val (.ref b5), .val (.ref b13), .val (.ref b25), .val (.ref b41), .val (.ref b13), .val (.ref b61), .val (.ref x_74), .val (.ref b_85), .val (.ref b_96)] []) _
    refine own_st (fun t_ k_ => XS.iconst X117.here hx rfl (hb hby at_204) k_) ?_
    show own_Go p e below T117 (mkF m 205 #[.val (.int p0), .val (.int p1), .val (.int p2), .val (.int p3), .val (.int p4), .val (.int p5), .val (.int r_1), .val (.int r_2), .val (.int r_3), .val (.int r_4), .val (.int (2 : Int32)), .val (.ref b5), .val (.ref b13), .val (.ref b25), .val (.ref b41), .val (.ref b13), .val (.ref b61), .val (.ref x_74), .val (.ref b_85), .val (.ref b_96)] [(.int (1 : Int32))]) _
    refine own_st (fun t_ k_ => XS.goto X117.here hx rfl (pc0 := 205) (pc' := 209) rfl (hb hby at_205) (by decide) (by decide) k_) ?_
    show own_Go p e below T117 (mkF m 209 #[.val (.int p0), .val (.int p1), .val (.int p2), .val (.int p3), .val (.int p4), .val (.int p5), .val (.int r_1), .val (.int r_2), .val (.int r_3), .val (.int r_4), .val (.int (2 : Int32)), .val (.ref b5), .val (.ref b13), .val (.ref b25), .val (.ref b41), .val (.ref b13), .val (.ref b61), .val (.ref x_74), .val (.ref b_85), .val (.ref b_96)] [(.int (1 : Int32))]) _
    obtain ⟨fs, hr, hrun, hended, hRW⟩ := X117.leaveW hS (by rw [eH117]; exact hK96) (v := some (.int (1 : Int32))) (fun h => by rw [Bd.returns] at h; cases h)
    have hCend : CHr Z own_EL s.vm s.heap T117.vm T117.heap := by
      rw [hh, eH117]
      exact CHr.trans CR97 (CHv.at X117 hZ hEL CH97)
    refine own_fin (retN X117 hx (t := .boolean) Bd.returns (by simp) (hb hby at_209) hr) ⟨hrun, hended, _, _, rfl, ?_, hCend, hRW.1, hRW.2.1, hRW.2.2.1, hRW.2.2.2.mono (by decide) (by decide)⟩
    show Q_rmLaw2 Z p0 p1 p2 p3 p4 p5 zc fm h0 n0 _ T117.heap _
    rw [eH117]
    exact ⟨rfl, N117, K98⟩
theorem ef_rmLaw3 (m : MethodId) (x0 : Int32) (x1 : Int32) (x2 : Int32) (x3 : Int32) (x4 : Int32) (x5 : Int32) : entryFrame m #[(.int x0), (.int x1), (.int x2), (.int x3), (.int x4), (.int x5)] maxLocals = mkF m 0 #[.val (.int x0), .val (.int x1), .val (.int x2), .val (.int x3), .val (.int x4), .val (.int x5), .unset, .unset, .unset, .unset, .unset, .unset, .unset, .unset, .unset, .unset, .unset, .unset, .unset, .unset] [] := by first | (simp [entryFrame, mkF, argsToLocals, Value.category, maxLocals]; done) | rfl
def Q_rmLaw3 (Z : State) (p0 : Int32) (p1 : Int32) (p2 : Int32) (p3 : Int32) (p4 : Int32) (p5 : Int32) (zc : Int32) (fm : Value) (h0 : Heap) (n0 : Nat) (v : Option Value) (h : Heap) (L : List Loc) : Prop := v = some (.int (1 : Int32)) ∧ Fr n0 L ∧ Keep h0 h []
set_option maxRecDepth 65536 in
set_option maxHeartbeats 40000000 in
theorem rmLaw3 (l : Launch) (Z : State) (a0 : Array Value) (hw : ∀ d ∈ tables_1, d.before a0 Z = true) (ws : List Jvm.Cond) (p0 : Int32) (p1 : Int32) (p2 : Int32) (p3 : Int32) (p4 : Int32) (p5 : Int32) (zc : Int32) (fm : Value) (h0 : Heap) (n0 : Nat) (Z0 : n0 ≤ h0.size) (pS_COMPACT_STRINGS : Sta Z Z.heap "java/lang/String" "COMPACT_STRINGS" "Z" (.int zc)) (pP5 : (¬ (zc = (0 : Int32)))) (pS_SIOOBE_FORMATTER : Sta Z Z.heap "jdk/internal/util/Preconditions" "SIOOBE_FORMATTER" "Ljava/util/function/BiFunction;" fm) (rfm : (fm.isRef = true)) (pO : Old Z n0 h0) (hn : ((1 : Int32) + (p4 &&& (3 : Int32)) = (3 : Int32))) :
    MetFree l x (head1 (Jvm.Cond.code x code maxLocals ret :: ws) room_1) (fun a U => a = #[(.int p0), (.int p1), (.int p2), (.int p3), (.int p4), (.int p5)] ∧ Z.Warmed39 U.vm ∧ U.heap = h0 ∧ CHv Z own_EL U.vm h0) (fun _ _ _ _ _ => True) (fun _ U o U' => ∃ v L, o = .returned v ∧ Q_rmLaw3 Z p0 p1 p2 p3 p4 p5 zc fm h0 n0 v U'.heap L ∧ CHr Z own_EL U.vm U.heap U'.vm U'.heap ∧ ReturnedEndW U o U' L 32 1152) := by
  refine MetFree.of_bodySF (plainFor_of_name pn_0) hisR ?_
  intro p e s m args below meth c s₁ Bd hml0 hP hK
  obtain ⟨rfl, hZ, hh, hCH⟩ := hP
  have hx := Bd.exec
  have hby := Bd.bytes
  have hml : c.maxLocals = 20 := hml0
  have hown : s.vm.findClass "com/example/faithful_courier/faithfulcourier/core/NameOfPinLaw" = some m.cls := findClass_of_methodNamed Bd.named
  have hnm := (name_of_methodNamed Bd.named Bd.method).1
  have X0 : Stand p l e room_1 (s.setVm s.vm) m #[(.int p0), (.int p1), (.int p2), (.int p3), (.int p4), (.int p5)] below meth c s₁ [] 0 0 := Stand.of_body Bd
  have e0 : s₁.heap = h0 := by rw [← hh, Bd.state]; rfl
  have N0 := Fr.nil n0
  have hEL := own_EW hw
  have hCR := CHr.refl hCH
  have hS : s.Since s.vm h0.size := (State.WarmedH.refl s).since _
  have hK0 : h0.size ≤ h0.size := Nat.le_refl _
  refine own_enter (ef_rmLaw3 m p0 p1 p2 p3 p4 p5) ?_
  have hws : ∀ d ∈ StrChars.Road.words, d.before a0 Z = true := fun d hd => hw d ((by decide +kernel : ∀ d ∈ StrChars.Road.words, d ∈ tables_1) d hd)
  have heq : ∀ d ∈ StrChars.Road.wordsEq, d.before a0 Z = true := fun d hd => hw d ((by decide +kernel : ∀ d ∈ StrChars.Road.wordsEq, d ∈ tables_1) d hd)
  refine own_st (fun t_ k_ => XS.iloadN X0.here hx rfl (hb hby at_0) rfl k_) ?_
  show own_Go p e below s₁ (mkF m 1 #[.val (.int p0), .val (.int p1), .val (.int p2), .val (.int p3), .val (.int p4), .val (.int p5), .unset, .unset, .unset, .unset, .unset, .unset, .unset, .unset, .unset, .unset, .unset, .unset, .unset, .unset] [(.int p0)]) _
  obtain ⟨_, _, ⟨T1, L1, k1, n1⟩, -, X1, ⟨Lc1, hQ1, l1, y1, z1⟩, st1⟩ := Jvm.LawKit.callS X0 hx (y := (⟨"com/example/faithful_courier/faithfulcourier/core/NameOfPinLaw", "allowed", "(I)C"⟩ : MethodName)) hown (mvT hZ (hw _ (List.mem_of_getElem? (i := 0) rfl))) (mvT hZ (hw _ (List.mem_of_getElem? (i := 1) rfl))) (mvT hZ (hw _ (List.mem_of_getElem? (i := 2) rfl))) (mvT hZ (hw _ (List.mem_of_getElem? (i := 3) rfl))) (by decide) (backOf (W := 0) (rmAl l Z a0 hw [] p0 h0 n0 Z0 ) hZ (hw _ (List.mem_of_getElem? (i := 3) rfl)) (hw _ (List.mem_of_getElem? (i := 2) rfl)) (by decide) (by decide)) (g := (mkF m 1 #[.val (.int p0), .val (.int p1), .val (.int p2), .val (.int p3), .val (.int p4), .val (.int p5), .unset, .unset, .unset, .unset, .unset, .unset, .unset, .unset, .unset, .unset, .unset, .unset, .unset, .unset] [(.int p0)])) rfl (by rw [hml]; rfl) (argsL := [(.int p0)]) (rest := []) (lenOf pd__I_C rfl) rfl (by show 2 * 0 + _ ≤ _; exact Nat.le_of_eq rfl) (hb hby at_1) (fun _ _ => ⟨rfl, e0, (by decide : 0 + 0 ≤ _), (by decide : 0 + 0 ≤ _)⟩)
  dsimp only [Pt.U, Pt.locs, Pt.cells, Pt.slots] at X1 l1 y1 z1 st1 hQ1
  try dsimp only [Nat.reduceAdd] at y1 z1
  rw [l1, y1, z1] at X1
  obtain ⟨r_1, rfl, Nq1, eH1, q1_0⟩ := hQ1
  have N1 := Fr.app N0 Nq1
  refine own_st st1 ?_
  show own_Go p e below T1 (mkF m 4 #[.val (.int p0), .val (.int p1), .val (.int p2), .val (.int p3), .val (.int p4), .val (.int p5), .unset, .unset, .unset, .unset, .unset, .unset, .unset, .unset, .unset, .unset, .unset, .unset, .unset, .unset] [(.int r_1)]) _
  refine own_st (fun t_ k_ => XS.istore X1.here hx rfl (hb hby at_4) rfl (l' := #[.val (.int p0), .val (.int p1), .val (.int p2), .val (.int p3), .val (.int p4), .val (.int p5), .val (.int r_1), .unset, .unset, .unset, .unset, .unset, .unset, .unset, .unset, .unset, .unset, .unset, .unset, .unset]) rfl k_) ?_
  show own_Go p e below T1 (mkF m 6 #[.val (.int p0), .val (.int p1), .val (.int p2), .val (.int p3), .val (.int p4), .val (.int p5), .val (.int r_1), .unset, .unset, .unset, .unset, .unset, .unset, .unset, .unset, .unset, .unset, .unset, .unset, .unset] []) _
  refine own_st (fun t_ k_ => XS.iloadN X1.here hx rfl (hb hby at_6) rfl k_) ?_
  show own_Go p e below T1 (mkF m 7 #[.val (.int p0), .val (.int p1), .val (.int p2), .val (.int p3), .val (.int p4), .val (.int p5), .val (.int r_1), .unset, .unset, .unset, .unset, .unset, .unset, .unset, .unset, .unset, .unset, .unset, .unset, .unset] [(.int p1)]) _
  obtain ⟨_, _, ⟨T2, L2, k2, n2⟩, -, X2, ⟨Lc2, hQ2, l2, y2, z2⟩, st2⟩ := Jvm.LawKit.callS X1 hx (y := (⟨"com/example/faithful_courier/faithfulcourier/core/NameOfPinLaw", "allowed", "(I)C"⟩ : MethodName)) hown (mvT hZ (hw _ (List.mem_of_getElem? (i := 0) rfl))) (mvT hZ (hw _ (List.mem_of_getElem? (i := 1) rfl))) (mvT hZ (hw _ (List.mem_of_getElem? (i := 2) rfl))) (mvT hZ (hw _ (List.mem_of_getElem? (i := 3) rfl))) (by decide) (backOf (W := 0) (rmAl l Z a0 hw [] p1 h0 n0 Z0 ) hZ (hw _ (List.mem_of_getElem? (i := 3) rfl)) (hw _ (List.mem_of_getElem? (i := 2) rfl)) (by decide) (by decide)) (g := (mkF m 7 #[.val (.int p0), .val (.int p1), .val (.int p2), .val (.int p3), .val (.int p4), .val (.int p5), .val (.int r_1), .unset, .unset, .unset, .unset, .unset, .unset, .unset, .unset, .unset, .unset, .unset, .unset, .unset] [(.int p1)])) rfl (by rw [hml]; rfl) (argsL := [(.int p1)]) (rest := []) (lenOf pd__I_C rfl) rfl (by show 2 * 0 + _ ≤ _; exact Nat.le_of_eq rfl) (hb hby at_7) (fun _ _ => ⟨rfl, eH1, (by decide : 0 + 0 ≤ _), (by decide : 0 + 0 ≤ _)⟩)
  dsimp only [Pt.U, Pt.locs, Pt.cells, Pt.slots] at X2 l2 y2 z2 st2 hQ2
  try dsimp only [Nat.reduceAdd] at y2 z2
  rw [l2, y2, z2] at X2
  obtain ⟨r_2, rfl, Nq2, eH2, q2_0⟩ := hQ2
  have N2 := Fr.app N1 Nq2
  refine own_st st2 ?_
  show own_Go p e below T2 (mkF m 10 #[.val (.int p0), .val (.int p1), .val (.int p2), .val (.int p3), .val (.int p4), .val (.int p5), .val (.int r_1), .unset, .unset, .unset, .unset, .unset, .unset, .unset, .unset, .unset, .unset, .unset, .unset, .unset] [(.int r_2)]) _
  refine own_st (fun t_ k_ => XS.istore X2.here hx rfl (hb hby at_10) rfl (l' := #[.val (.int p0), .val (.int p1), .val (.int p2), .val (.int p3), .val (.int p4), .val (.int p5), .val (.int r_1), .val (.int r_2), .unset, .unset, .unset, .unset, .unset, .unset, .unset, .unset, .unset, .unset, .unset, .unset]) rfl k_) ?_
  show own_Go p e below T2 (mkF m 12 #[.val (.int p0), .val (.int p1), .val (.int p2), .val (.int p3), .val (.int p4), .val (.int p5), .val (.int r_1), .val (.int r_2), .unset, .unset, .unset, .unset, .unset, .unset, .unset, .unset, .unset, .unset, .unset, .unset] []) _
  refine own_st (fun t_ k_ => XS.iloadN X2.here hx rfl (hb hby at_12) rfl k_) ?_
  show own_Go p e below T2 (mkF m 13 #[.val (.int p0), .val (.int p1), .val (.int p2), .val (.int p3), .val (.int p4), .val (.int p5), .val (.int r_1), .val (.int r_2), .unset, .unset, .unset, .unset, .unset, .unset, .unset, .unset, .unset, .unset, .unset, .unset] [(.int p2)]) _
  obtain ⟨_, _, ⟨T3, L3, k3, n3⟩, -, X3, ⟨Lc3, hQ3, l3, y3, z3⟩, st3⟩ := Jvm.LawKit.callS X2 hx (y := (⟨"com/example/faithful_courier/faithfulcourier/core/NameOfPinLaw", "allowed", "(I)C"⟩ : MethodName)) hown (mvT hZ (hw _ (List.mem_of_getElem? (i := 0) rfl))) (mvT hZ (hw _ (List.mem_of_getElem? (i := 1) rfl))) (mvT hZ (hw _ (List.mem_of_getElem? (i := 2) rfl))) (mvT hZ (hw _ (List.mem_of_getElem? (i := 3) rfl))) (by decide) (backOf (W := 0) (rmAl l Z a0 hw [] p2 h0 n0 Z0 ) hZ (hw _ (List.mem_of_getElem? (i := 3) rfl)) (hw _ (List.mem_of_getElem? (i := 2) rfl)) (by decide) (by decide)) (g := (mkF m 13 #[.val (.int p0), .val (.int p1), .val (.int p2), .val (.int p3), .val (.int p4), .val (.int p5), .val (.int r_1), .val (.int r_2), .unset, .unset, .unset, .unset, .unset, .unset, .unset, .unset, .unset, .unset, .unset, .unset] [(.int p2)])) rfl (by rw [hml]; rfl) (argsL := [(.int p2)]) (rest := []) (lenOf pd__I_C rfl) rfl (by show 2 * 0 + _ ≤ _; exact Nat.le_of_eq rfl) (hb hby at_13) (fun _ _ => ⟨rfl, eH2, (by decide : 0 + 0 ≤ _), (by decide : 0 + 0 ≤ _)⟩)
  dsimp only [Pt.U, Pt.locs, Pt.cells, Pt.slots] at X3 l3 y3 z3 st3 hQ3
  try dsimp only [Nat.reduceAdd] at y3 z3
  rw [l3, y3, z3] at X3
  obtain ⟨r_3, rfl, Nq3, eH3, q3_0⟩ := hQ3
  have N3 := Fr.app N2 Nq3
  refine own_st st3 ?_
  show own_Go p e below T3 (mkF m 16 #[.val (.int p0), .val (.int p1), .val (.int p2), .val (.int p3), .val (.int p4), .val (.int p5), .val (.int r_1), .val (.int r_2), .unset, .unset, .unset, .unset, .unset, .unset, .unset, .unset, .unset, .unset, .unset, .unset] [(.int r_3)]) _
  refine own_st (fun t_ k_ => XS.istore X3.here hx rfl (hb hby at_16) rfl (l' := #[.val (.int p0), .val (.int p1), .val (.int p2), .val (.int p3), .val (.int p4), .val (.int p5), .val (.int r_1), .val (.int r_2), .val (.int r_3), .unset, .unset, .unset, .unset, .unset, .unset, .unset, .unset, .unset, .unset, .unset]) rfl k_) ?_
  show own_Go p e below T3 (mkF m 18 #[.val (.int p0), .val (.int p1), .val (.int p2), .val (.int p3), .val (.int p4), .val (.int p5), .val (.int r_1), .val (.int r_2), .val (.int r_3), .unset, .unset, .unset, .unset, .unset, .unset, .unset, .unset, .unset, .unset, .unset] []) _
  refine own_st (fun t_ k_ => XS.iloadN X3.here hx rfl (hb hby at_18) rfl k_) ?_
  show own_Go p e below T3 (mkF m 19 #[.val (.int p0), .val (.int p1), .val (.int p2), .val (.int p3), .val (.int p4), .val (.int p5), .val (.int r_1), .val (.int r_2), .val (.int r_3), .unset, .unset, .unset, .unset, .unset, .unset, .unset, .unset, .unset, .unset, .unset] [(.int p3)]) _
  obtain ⟨_, _, ⟨T4, L4, k4, n4⟩, -, X4, ⟨Lc4, hQ4, l4, y4, z4⟩, st4⟩ := Jvm.LawKit.callS X3 hx (y := (⟨"com/example/faithful_courier/faithfulcourier/core/NameOfPinLaw", "allowed", "(I)C"⟩ : MethodName)) hown (mvT hZ (hw _ (List.mem_of_getElem? (i := 0) rfl))) (mvT hZ (hw _ (List.mem_of_getElem? (i := 1) rfl))) (mvT hZ (hw _ (List.mem_of_getElem? (i := 2) rfl))) (mvT hZ (hw _ (List.mem_of_getElem? (i := 3) rfl))) (by decide) (backOf (W := 0) (rmAl l Z a0 hw [] p3 h0 n0 Z0 ) hZ (hw _ (List.mem_of_getElem? (i := 3) rfl)) (hw _ (List.mem_of_getElem? (i := 2) rfl)) (by decide) (by decide)) (g := (mkF m 19 #[.val (.int p0), .val (.int p1), .val (.int p2), .val (.int p3), .val (.int p4), .val (.int p5), .val (.int r_1), .val (.int r_2), .val (.int r_3), .unset, .unset, .unset, .unset, .unset, .unset, .unset, .unset, .unset, .unset, .unset] [(.int p3)])) rfl (by rw [hml]; rfl) (argsL := [(.int p3)]) (rest := []) (lenOf pd__I_C rfl) rfl (by show 2 * 0 + _ ≤ _; exact Nat.le_of_eq rfl) (hb hby at_19) (fun _ _ => ⟨rfl, eH3, (by decide : 0 + 0 ≤ _), (by decide : 0 + 0 ≤ _)⟩)
  dsimp only [Pt.U, Pt.locs, Pt.cells, Pt.slots] at X4 l4 y4 z4 st4 hQ4
  try dsimp only [Nat.reduceAdd] at y4 z4
  rw [l4, y4, z4] at X4
  obtain ⟨r_4, rfl, Nq4, eH4, q4_0⟩ := hQ4
  have N4 := Fr.app N3 Nq4
  refine own_st st4 ?_
  show own_Go p e below T4 (mkF m 22 #[.val (.int p0), .val (.int p1), .val (.int p2), .val (.int p3), .val (.int p4), .val (.int p5), .val (.int r_1), .val (.int r_2), .val (.int r_3), .unset, .unset, .unset, .unset, .unset, .unset, .unset, .unset, .unset, .unset, .unset] [(.int r_4)]) _
  refine own_st (fun t_ k_ => XS.istore X4.here hx rfl (hb hby at_22) rfl (l' := #[.val (.int p0), .val (.int p1), .val (.int p2), .val (.int p3), .val (.int p4), .val (.int p5), .val (.int r_1), .val (.int r_2), .val (.int r_3), .val (.int r_4), .unset, .unset, .unset, .unset, .unset, .unset, .unset, .unset, .unset, .unset]) rfl k_) ?_
  show own_Go p e below T4 (mkF m 24 #[.val (.int p0), .val (.int p1), .val (.int p2), .val (.int p3), .val (.int p4), .val (.int p5), .val (.int r_1), .val (.int r_2), .val (.int r_3), .val (.int r_4), .unset, .unset, .unset, .unset, .unset, .unset, .unset, .unset, .unset, .unset] []) _
  refine own_st (fun t_ k_ => XS.iconst X4.here hx rfl (hb hby at_24) k_) ?_
  show own_Go p e below T4 (mkF m 25 #[.val (.int p0), .val (.int p1), .val (.int p2), .val (.int p3), .val (.int p4), .val (.int p5), .val (.int r_1), .val (.int r_2), .val (.int r_3), .val (.int r_4), .unset, .unset, .unset, .unset, .unset, .unset, .unset, .unset, .unset, .unset] [(.int (1 : Int32))]) _
  refine own_st (fun t_ k_ => XS.iload X4.here hx rfl (hb hby at_25) rfl k_) ?_
  show own_Go p e below T4 (mkF m 27 #[.val (.int p0), .val (.int p1), .val (.int p2), .val (.int p3), .val (.int p4), .val (.int p5), .val (.int r_1), .val (.int r_2), .val (.int r_3), .val (.int r_4), .unset, .unset, .unset, .unset, .unset, .unset, .unset, .unset, .unset, .unset] [(.int p4), (.int (1 : Int32))]) _
  refine own_st (fun t_ k_ => XS.iconst X4.here hx rfl (hb hby at_27) k_) ?_
  show own_Go p e below T4 (mkF m 28 #[.val (.int p0), .val (.int p1), .val (.int p2), .val (.int p3), .val (.int p4), .val (.int p5), .val (.int r_1), .val (.int r_2), .val (.int r_3), .val (.int r_4), .unset, .unset, .unset, .unset, .unset, .unset, .unset, .unset, .unset, .unset] [(.int (3 : Int32)), (.int p4), (.int (1 : Int32))]) _
  refine own_st (fun t_ k_ => XS.iand X4.here hx rfl (hb hby at_28) rfl k_) ?_
  show own_Go p e below T4 (mkF m 29 #[.val (.int p0), .val (.int p1), .val (.int p2), .val (.int p3), .val (.int p4), .val (.int p5), .val (.int r_1), .val (.int r_2), .val (.int r_3), .val (.int r_4), .unset, .unset, .unset, .unset, .unset, .unset, .unset, .unset, .unset, .unset] [(.int (p4 &&& (3 : Int32))), (.int (1 : Int32))]) _
  refine own_st (fun t_ k_ => XS.iadd X4.here hx rfl (hb hby at_29) rfl k_) ?_
  show own_Go p e below T4 (mkF m 30 #[.val (.int p0), .val (.int p1), .val (.int p2), .val (.int p3), .val (.int p4), .val (.int p5), .val (.int r_1), .val (.int r_2), .val (.int r_3), .val (.int r_4), .unset, .unset, .unset, .unset, .unset, .unset, .unset, .unset, .unset, .unset] [(.int ((1 : Int32) + (p4 &&& (3 : Int32))))]) _
  rw [hn]
  show own_Go p e below T4 (mkF m 30 #[.val (.int p0), .val (.int p1), .val (.int p2), .val (.int p3), .val (.int p4), .val (.int p5), .val (.int r_1), .val (.int r_2), .val (.int r_3), .val (.int r_4), .unset, .unset, .unset, .unset, .unset, .unset, .unset, .unset, .unset, .unset] [(.int (3 : Int32))]) _
  refine own_st (fun t_ k_ => XS.istore X4.here hx rfl (hb hby at_30) rfl (l' := #[.val (.int p0), .val (.int p1), .val (.int p2), .val (.int p3), .val (.int p4), .val (.int p5), .val (.int r_1), .val (.int r_2), .val (.int r_3), .val (.int r_4), .val (.int (3 : Int32)), .unset, .unset, .unset, .unset, .unset, .unset, .unset, .unset, .unset]) rfl k_) ?_
  show own_Go p e below T4 (mkF m 32 #[.val (.int p0), .val (.int p1), .val (.int p2), .val (.int p3), .val (.int p4), .val (.int p5), .val (.int r_1), .val (.int r_2), .val (.int r_3), .val (.int r_4), .val (.int (3 : Int32)), .unset, .unset, .unset, .unset, .unset, .unset, .unset, .unset, .unset] []) _
  refine own_st (fun t_ k_ => XS.iconst X4.here hx rfl (hb hby at_32) k_) ?_
  show own_Go p e below T4 (mkF m 33 #[.val (.int p0), .val (.int p1), .val (.int p2), .val (.int p3), .val (.int p4), .val (.int p5), .val (.int r_1), .val (.int r_2), .val (.int r_3), .val (.int r_4), .val (.int (3 : Int32)), .unset, .unset, .unset, .unset, .unset, .unset, .unset, .unset, .unset] [(.int (1 : Int32))]) _
  obtain ⟨T5, h5, k5, X5, e5, E5, A5, st5⟩ := newP X4 hx hZ (hw _ (List.mem_of_getElem? (i := 5) rfl)) eH4 (g := (mkF m 33 #[.val (.int p0), .val (.int p1), .val (.int p2), .val (.int p3), .val (.int p4), .val (.int p5), .val (.int r_1), .val (.int r_2), .val (.int r_3), .val (.int r_4), .val (.int (3 : Int32)), .unset, .unset, .unset, .unset, .unset, .unset, .unset, .unset, .unset] [(.int (1 : Int32))])) rfl (hb hby at_33) rfl (by decide) (cap := 1) (by decide) (by decide) (by decide) (by decide)
  obtain ⟨b5, g5⟩ : ∃ z, z = h0.size := ⟨_, rfl⟩
  rw [← g5] at A5 st5
  have G5 : n0 ≤ b5 := Nat.le_trans Z0 (Nat.le_of_eq g5.symm)
  have B5 : h0.size ≤ b5 := Nat.le_trans (Keep.refl h0 []).1 (Nat.le_of_eq g5.symm)
  have CH6 := hCH.ext E5
  have CR6 := CHr.trans hCR (CHr.ext E5 hCH)
  have K7 : Keep h0 h5 [] := (Keep.refl h0 []).ext E5
  have V5 : Arv Z h5 b5 k5 .char (1 : Int32) [(.int (0 : Int32))] (.int (0 : Int32)) := (Arv.new A5 (by decide)).pad (pad_rep [] (.int (0 : Int32)) 1)
  refine own_st st5 ?_
  show own_Go p e below T5 (mkF m 35 #[.val (.int p0), .val (.int p1), .val (.int p2), .val (.int p3), .val (.int p4), .val (.int p5), .val (.int r_1), .val (.int r_2), .val (.int r_3), .val (.int r_4), .val (.int (3 : Int32)), .unset, .unset, .unset, .unset, .unset, .unset, .unset, .unset, .unset] [(.ref b5)]) _
  refine own_st (fun t_ k_ => XS.dup X5.here hx rfl (hb hby at_35) rfl rfl k_) ?_
  show own_Go p e below T5 (mkF m 36 #[.val (.int p0), .val (.int p1), .val (.int p2), .val (.int p3), .val (.int p4), .val (.int p5), .val (.int r_1), .val (.int r_2), .val (.int r_3), .val (.int r_4), .val (.int (3 : Int32)), .unset, .unset, .unset, .unset, .unset, .unset, .unset, .unset, .unset] [(.ref b5), (.ref b5)]) _
  refine own_st (fun t_ k_ => XS.iconst X5.here hx rfl (hb hby at_36) k_) ?_
  show own_Go p e below T5 (mkF m 37 #[.val (.int p0), .val (.int p1), .val (.int p2), .val (.int p3), .val (.int p4), .val (.int p5), .val (.int r_1), .val (.int r_2), .val (.int r_3), .val (.int r_4), .val (.int (3 : Int32)), .unset, .unset, .unset, .unset, .unset, .unset, .unset, .unset, .unset] [(.int (0 : Int32)), (.ref b5), (.ref b5)]) _
  refine own_st (fun t_ k_ => XS.iload X5.here hx rfl (hb hby at_37) rfl k_) ?_
  show own_Go p e below T5 (mkF m 39 #[.val (.int p0), .val (.int p1), .val (.int p2), .val (.int p3), .val (.int p4), .val (.int p5), .val (.int r_1), .val (.int r_2), .val (.int r_3), .val (.int r_4), .val (.int (3 : Int32)), .unset, .unset, .unset, .unset, .unset, .unset, .unset, .unset, .unset] [(.int r_1), (.int (0 : Int32)), (.ref b5), (.ref b5)]) _
  obtain ⟨cl8, Ar8, q8, Sz8, Nn8, Hh8, Gg8⟩ := id V5
  have hin8 : ¬ ((0 : Int32) < 0 ∨ cl8.slots.size ≤ ((0 : Int32)).toNatClampNeg) := inb_of Sz8 ⟨by decide, by decide⟩
  obtain ⟨T9, h9, X9, e9, W9, st9⟩ := stC X5 hx hZ e5 Ar8 (j := (0 : Int32)) hin8 (g := (mkF m 39 #[.val (.int p0), .val (.int p1), .val (.int p2), .val (.int p3), .val (.int p4), .val (.int p5), .val (.int r_1), .val (.int r_2), .val (.int r_3), .val (.int r_4), .val (.int (3 : Int32)), .unset, .unset, .unset, .unset, .unset, .unset, .unset, .unset, .unset] [(.int r_1), (.int (0 : Int32)), (.ref b5), (.ref b5)])) rfl rfl (hb hby at_39)
  have V9 : Arv Z h9 b5 k5 .char (1 : Int32) [(.int (nar .char r_1))] (.int (0 : Int32)) := Arv.set Ar8 q8 Sz8 Nn8 Hh8 Gg8 (fits_nar_char _) W9 0 rfl (Nat.le_of_ble_eq_true rfl)
  rw [own_alnar q1_0] at V9
  have Sa10 : Safe Z own_EL s.vm h5 b5 := (Safe.arv hZ.alike V5 (by decide))
  have CH10 := CH6.wr W9 Sa10
  have CR10 := CHr.trans CR6 (CHr.wr W9 Sa10 CH6)
  have K11 : Keep h0 h9 [] := K7.wr W9 (Or.inr B5)
  have N9 := Fr.snoc X9 N4 G5
  refine own_st st9 ?_
  show own_Go p e below T9 (mkF m 40 #[.val (.int p0), .val (.int p1), .val (.int p2), .val (.int p3), .val (.int p4), .val (.int p5), .val (.int r_1), .val (.int r_2), .val (.int r_3), .val (.int r_4), .val (.int (3 : Int32)), .unset, .unset, .unset, .unset, .unset, .unset, .unset, .unset, .unset] [(.ref b5)]) _
  refine own_st (fun t_ k_ => XS.astore X9.here hx rfl (hb hby at_40) rfl rfl (l' := #[.val (.int p0), .val (.int p1), .val (.int p2), .val (.int p3), .val (.int p4), .val (.int p5), .val (.int r_1), .val (.int r_2), .val (.int r_3), .val (.int r_4), .val (.int (3 : Int32)), .val (.ref b5), .unset, .unset, .unset, .unset, .unset, .unset, .unset, .unset]) rfl k_) ?_
  show own_Go p e below T9 (mkF m 42 #[.val (.int p0), .val (.int p1), .val (.int p2), .val (.int p3), .val (.int p4), .val (.int p5), .val (.int r_1), .val (.int r_2), .val (.int r_3), .val (.int r_4), .val (.int (3 : Int32)), .val (.ref b5), .unset, .unset, .unset, .unset, .unset, .unset, .unset, .unset] []) _
  refine own_st (fun t_ k_ => XS.iconst X9.here hx rfl (hb hby at_42) k_) ?_
  show own_Go p e below T9 (mkF m 43 #[.val (.int p0), .val (.int p1), .val (.int p2), .val (.int p3), .val (.int p4), .val (.int p5), .val (.int r_1), .val (.int r_2), .val (.int r_3), .val (.int r_4), .val (.int (3 : Int32)), .val (.ref b5), .unset, .unset, .unset, .unset, .unset, .unset, .unset, .unset] [(.int (2 : Int32))]) _
  have f12 := (Nat.le_trans (Nat.le_trans Z0 E5.1) (Keep.of_wr W9).1)
  obtain ⟨T13, h13, k13, X13, e13, E13, A13, st13⟩ := newP X9 hx hZ (hw _ (List.mem_of_getElem? (i := 5) rfl)) e9 (g := (mkF m 43 #[.val (.int p0), .val (.int p1), .val (.int p2), .val (.int p3), .val (.int p4), .val (.int p5), .val (.int r_1), .val (.int r_2), .val (.int r_3), .val (.int r_4), .val (.int (3 : Int32)), .val (.ref b5), .unset, .unset, .unset, .unset, .unset, .unset, .unset, .unset] [(.int (2 : Int32))])) rfl (hb hby at_43) rfl (by decide) (cap := 2) (by decide) (by decide) (by decide) (by decide)
  obtain ⟨b13, g13⟩ : ∃ z, z = h9.size := ⟨_, rfl⟩
  rw [← g13] at A13 st13
  have G13 : n0 ≤ b13 := Nat.le_trans f12 (Nat.le_of_eq g13.symm)
  have B13 : h0.size ≤ b13 := Nat.le_trans K11.1 (Nat.le_of_eq g13.symm)
  have CH14 := CH10.ext E13
  have CR14 := CHr.trans CR10 (CHr.ext E13 CH10)
  have K15 : Keep h0 h13 [] := K11.ext E13
  have V13 : Arv Z h13 b13 k13 .char (2 : Int32) [(.int (0 : Int32)), (.int (0 : Int32))] (.int (0 : Int32)) := (Arv.new A13 (by decide)).pad (pad_rep [] (.int (0 : Int32)) 2)
  refine own_st st13 ?_
  show own_Go p e below T13 (mkF m 45 #[.val (.int p0), .val (.int p1), .val (.int p2), .val (.int p3), .val (.int p4), .val (.int p5), .val (.int r_1), .val (.int r_2), .val (.int r_3), .val (.int r_4), .val (.int (3 : Int32)), .val (.ref b5), .unset, .unset, .unset, .unset, .unset, .unset, .unset, .unset] [(.ref b13)]) _
  refine own_st (fun t_ k_ => XS.dup X13.here hx rfl (hb hby at_45) rfl rfl k_) ?_
  show own_Go p e below T13 (mkF m 46 #[.val (.int p0), .val (.int p1), .val (.int p2), .val (.int p3), .val (.int p4), .val (.int p5), .val (.int r_1), .val (.int r_2), .val (.int r_3), .val (.int r_4), .val (.int (3 : Int32)), .val (.ref b5), .unset, .unset, .unset, .unset, .unset, .unset, .unset, .unset] [(.ref b13), (.ref b13)]) _
  refine own_st (fun t_ k_ => XS.iconst X13.here hx rfl (hb hby at_46) k_) ?_
  show own_Go p e below T13 (mkF m 47 #[.val (.int p0), .val (.int p1), .val (.int p2), .val (.int p3), .val (.int p4), .val (.int p5), .val (.int r_1), .val (.int r_2), .val (.int r_3), .val (.int r_4), .val (.int (3 : Int32)), .val (.ref b5), .unset, .unset, .unset, .unset, .unset, .unset, .unset, .unset] [(.int (0 : Int32)), (.ref b13), (.ref b13)]) _
  refine own_st (fun t_ k_ => XS.iload X13.here hx rfl (hb hby at_47) rfl k_) ?_
  show own_Go p e below T13 (mkF m 49 #[.val (.int p0), .val (.int p1), .val (.int p2), .val (.int p3), .val (.int p4), .val (.int p5), .val (.int r_1), .val (.int r_2), .val (.int r_3), .val (.int r_4), .val (.int (3 : Int32)), .val (.ref b5), .unset, .unset, .unset, .unset, .unset, .unset, .unset, .unset] [(.int r_1), (.int (0 : Int32)), (.ref b13), (.ref b13)]) _
  obtain ⟨cl16, Ar16, q16, Sz16, Nn16, Hh16, Gg16⟩ := id V13
  have hin16 : ¬ ((0 : Int32) < 0 ∨ cl16.slots.size ≤ ((0 : Int32)).toNatClampNeg) := inb_of Sz16 ⟨by decide, by decide⟩
  obtain ⟨T17, h17, X17, e17, W17, st17⟩ := stC X13 hx hZ e13 Ar16 (j := (0 : Int32)) hin16 (g := (mkF m 49 #[.val (.int p0), .val (.int p1), .val (.int p2), .val (.int p3), .val (.int p4), .val (.int p5), .val (.int r_1), .val (.int r_2), .val (.int r_3), .val (.int r_4), .val (.int (3 : Int32)), .val (.ref b5), .unset, .unset, .unset, .unset, .unset, .unset, .unset, .unset] [(.int r_1), (.int (0 : Int32)), (.ref b13), (.ref b13)])) rfl rfl (hb hby at_49)
  have V17 : Arv Z h17 b13 k13 .char (2 : Int32) [(.int (nar .char r_1)), (.int (0 : Int32))] (.int (0 : Int32)) := Arv.set Ar16 q16 Sz16 Nn16 Hh16 Gg16 (fits_nar_char _) W17 0 rfl (Nat.le_of_ble_eq_true rfl)
  rw [own_alnar q1_0] at V17
  have Sa18 : Safe Z own_EL s.vm h13 b13 := (Safe.arv hZ.alike V13 (by decide))
  have CH18 := CH14.wr W17 Sa18
  have CR18 := CHr.trans CR14 (CHr.wr W17 Sa18 CH14)
  have K19 : Keep h0 h17 [] := K15.wr W17 (Or.inr B13)
  have N17 := Fr.snoc X17 N9 G13
  refine own_st st17 ?_
  show own_Go p e below T17 (mkF m 50 #[.val (.int p0), .val (.int p1), .val (.int p2), .val (.int p3), .val (.int p4), .val (.int p5), .val (.int r_1), .val (.int r_2), .val (.int r_3), .val (.int r_4), .val (.int (3 : Int32)), .val (.ref b5), .unset, .unset, .unset, .unset, .unset, .unset, .unset, .unset] [(.ref b13)]) _
  refine own_st (fun t_ k_ => XS.dup X17.here hx rfl (hb hby at_50) rfl rfl k_) ?_
  show own_Go p e below T17 (mkF m 51 #[.val (.int p0), .val (.int p1), .val (.int p2), .val (.int p3), .val (.int p4), .val (.int p5), .val (.int r_1), .val (.int r_2), .val (.int r_3), .val (.int r_4), .val (.int (3 : Int32)), .val (.ref b5), .unset, .unset, .unset, .unset, .unset, .unset, .unset, .unset] [(.ref b13), (.ref b13)]) _
  refine own_st (fun t_ k_ => XS.iconst X17.here hx rfl (hb hby at_51) k_) ?_
  show own_Go p e below T17 (mkF m 52 #[.val (.int p0), .val (.int p1), .val (.int p2), .val (.int p3), .val (.int p4), .val (.int p5), .val (.int r_1), .val (.int r_2), .val (.int r_3), .val (.int r_4), .val (.int (3 : Int32)), .val (.ref b5), .unset, .unset, .unset, .unset, .unset, .unset, .unset, .unset] [(.int (1 : Int32)), (.ref b13), (.ref b13)]) _
  refine own_st (fun t_ k_ => XS.iload X17.here hx rfl (hb hby at_52) rfl k_) ?_
  show own_Go p e below T17 (mkF m 54 #[.val (.int p0), .val (.int p1), .val (.int p2), .val (.int p3), .val (.int p4), .val (.int p5), .val (.int r_1), .val (.int r_2), .val (.int r_3), .val (.int r_4), .val (.int (3 : Int32)), .val (.ref b5), .unset, .unset, .unset, .unset, .unset, .unset, .unset, .unset] [(.int r_2), (.int (1 : Int32)), (.ref b13), (.ref b13)]) _
  obtain ⟨cl20, Ar20, q20, Sz20, Nn20, Hh20, Gg20⟩ := id V17
  have hin20 : ¬ ((1 : Int32) < 0 ∨ cl20.slots.size ≤ ((1 : Int32)).toNatClampNeg) := inb_of Sz20 ⟨by decide, by decide⟩
  obtain ⟨T21, h21, X21, e21, W21, st21⟩ := stC X17 hx hZ e17 Ar20 (j := (1 : Int32)) hin20 (g := (mkF m 54 #[.val (.int p0), .val (.int p1), .val (.int p2), .val (.int p3), .val (.int p4), .val (.int p5), .val (.int r_1), .val (.int r_2), .val (.int r_3), .val (.int r_4), .val (.int (3 : Int32)), .val (.ref b5), .unset, .unset, .unset, .unset, .unset, .unset, .unset, .unset] [(.int r_2), (.int (1 : Int32)), (.ref b13), (.ref b13)])) rfl rfl (hb hby at_54)
  have V21 : Arv Z h21 b13 k13 .char (2 : Int32) [(.int r_1), (.int (nar .char r_2))] (.int (0 : Int32)) := Arv.set Ar20 q20 Sz20 Nn20 Hh20 Gg20 (fits_nar_char _) W21 1 rfl (Nat.le_of_ble_eq_true rfl)
  rw [own_alnar q2_0] at V21
  have Sa22 : Safe Z own_EL s.vm h17 b13 := (Safe.arv hZ.alike V17 (by decide))
  have CH22 := CH18.wr W21 Sa22
  have CR22 := CHr.trans CR18 (CHr.wr W21 Sa22 CH18)
  have K23 : Keep h0 h21 [] := K19.wr W21 (Or.inr B13)
  have N21 := Fr.snoc X21 N17 G13
  refine own_st st21 ?_
  show own_Go p e below T21 (mkF m 55 #[.val (.int p0), .val (.int p1), .val (.int p2), .val (.int p3), .val (.int p4), .val (.int p5), .val (.int r_1), .val (.int r_2), .val (.int r_3), .val (.int r_4), .val (.int (3 : Int32)), .val (.ref b5), .unset, .unset, .unset, .unset, .unset, .unset, .unset, .unset] [(.ref b13)]) _
  refine own_st (fun t_ k_ => XS.astore X21.here hx rfl (hb hby at_55) rfl rfl (l' := #[.val (.int p0), .val (.int p1), .val (.int p2), .val (.int p3), .val (.int p4), .val (.int p5), .val (.int r_1), .val (.int r_2), .val (.int r_3), .val (.int r_4), .val (.int (3 : Int32)), .val (.ref b5), .val (.ref b13), .unset, .unset, .unset, .unset, .unset, .unset, .unset]) rfl k_) ?_
  show own_Go p e below T21 (mkF m 57 #[.val (.int p0), .val (.int p1), .val (.int p2), .val (.int p3), .val (.int p4), .val (.int p5), .val (.int r_1), .val (.int r_2), .val (.int r_3), .val (.int r_4), .val (.int (3 : Int32)), .val (.ref b5), .val (.ref b13), .unset, .unset, .unset, .unset, .unset, .unset, .unset] []) _
  refine own_st (fun t_ k_ => XS.iconst X21.here hx rfl (hb hby at_57) k_) ?_
  show own_Go p e below T21 (mkF m 58 #[.val (.int p0), .val (.int p1), .val (.int p2), .val (.int p3), .val (.int p4), .val (.int p5), .val (.int r_1), .val (.int r_2), .val (.int r_3), .val (.int r_4), .val (.int (3 : Int32)), .val (.ref b5), .val (.ref b13), .unset, .unset, .unset, .unset, .unset, .unset, .unset] [(.int (3 : Int32))]) _
  have f24 := (Nat.le_trans (Nat.le_trans (Nat.le_trans f12 E13.1) (Keep.of_wr W17).1) (Keep.of_wr W21).1)
  obtain ⟨T25, h25, k25, X25, e25, E25, A25, st25⟩ := newP X21 hx hZ (hw _ (List.mem_of_getElem? (i := 5) rfl)) e21 (g := (mkF m 58 #[.val (.int p0), .val (.int p1), .val (.int p2), .val (.int p3), .val (.int p4), .val (.int p5), .val (.int r_1), .val (.int r_2), .val (.int r_3), .val (.int r_4), .val (.int (3 : Int32)), .val (.ref b5), .val (.ref b13), .unset, .unset, .unset, .unset, .unset, .unset, .unset] [(.int (3 : Int32))])) rfl (hb hby at_58) rfl (by decide) (cap := 3) (by decide) (by decide) (by decide) (by decide)
  obtain ⟨b25, g25⟩ : ∃ z, z = h21.size := ⟨_, rfl⟩
  rw [← g25] at A25 st25
  have G25 : n0 ≤ b25 := Nat.le_trans f24 (Nat.le_of_eq g25.symm)
  have B25 : h0.size ≤ b25 := Nat.le_trans K23.1 (Nat.le_of_eq g25.symm)
  have CH26 := CH22.ext E25
  have CR26 := CHr.trans CR22 (CHr.ext E25 CH22)
  have K27 : Keep h0 h25 [] := K23.ext E25
  have V25 : Arv Z h25 b25 k25 .char (3 : Int32) [(.int (0 : Int32)), (.int (0 : Int32)), (.int (0 : Int32))] (.int (0 : Int32)) := (Arv.new A25 (by decide)).pad (pad_rep [] (.int (0 : Int32)) 3)
  refine own_st st25 ?_
  show own_Go p e below T25 (mkF m 60 #[.val (.int p0), .val (.int p1), .val (.int p2), .val (.int p3), .val (.int p4), .val (.int p5), .val (.int r_1), .val (.int r_2), .val (.int r_3), .val (.int r_4), .val (.int (3 : Int32)), .val (.ref b5), .val (.ref b13), .unset, .unset, .unset, .unset, .unset, .unset, .unset] [(.ref b25)]) _
  refine own_st (fun t_ k_ => XS.dup X25.here hx rfl (hb hby at_60) rfl rfl k_) ?_
  show own_Go p e below T25 (mkF m 61 #[.val (.int p0), .val (.int p1), .val (.int p2), .val (.int p3), .val (.int p4), .val (.int p5), .val (.int r_1), .val (.int r_2), .val (.int r_3), .val (.int r_4), .val (.int (3 : Int32)), .val (.ref b5), .val (.ref b13), .unset, .unset, .unset, .unset, .unset, .unset, .unset] [(.ref b25), (.ref b25)]) _
  refine own_st (fun t_ k_ => XS.iconst X25.here hx rfl (hb hby at_61) k_) ?_
  show own_Go p e below T25 (mkF m 62 #[.val (.int p0), .val (.int p1), .val (.int p2), .val (.int p3), .val (.int p4), .val (.int p5), .val (.int r_1), .val (.int r_2), .val (.int r_3), .val (.int r_4), .val (.int (3 : Int32)), .val (.ref b5), .val (.ref b13), .unset, .unset, .unset, .unset, .unset, .unset, .unset] [(.int (0 : Int32)), (.ref b25), (.ref b25)]) _
  refine own_st (fun t_ k_ => XS.iload X25.here hx rfl (hb hby at_62) rfl k_) ?_
  show own_Go p e below T25 (mkF m 64 #[.val (.int p0), .val (.int p1), .val (.int p2), .val (.int p3), .val (.int p4), .val (.int p5), .val (.int r_1), .val (.int r_2), .val (.int r_3), .val (.int r_4), .val (.int (3 : Int32)), .val (.ref b5), .val (.ref b13), .unset, .unset, .unset, .unset, .unset, .unset, .unset] [(.int r_1), (.int (0 : Int32)), (.ref b25), (.ref b25)]) _
  obtain ⟨cl28, Ar28, q28, Sz28, Nn28, Hh28, Gg28⟩ := id V25
  have hin28 : ¬ ((0 : Int32) < 0 ∨ cl28.slots.size ≤ ((0 : Int32)).toNatClampNeg) := inb_of Sz28 ⟨by decide, by decide⟩
  obtain ⟨T29, h29, X29, e29, W29, st29⟩ := stC X25 hx hZ e25 Ar28 (j := (0 : Int32)) hin28 (g := (mkF m 64 #[.val (.int p0), .val (.int p1), .val (.int p2), .val (.int p3), .val (.int p4), .val (.int p5), .val (.int r_1), .val (.int r_2), .val (.int r_3), .val (.int r_4), .val (.int (3 : Int32)), .val (.ref b5), .val (.ref b13), .unset, .unset, .unset, .unset, .unset, .unset, .unset] [(.int r_1), (.int (0 : Int32)), (.ref b25), (.ref b25)])) rfl rfl (hb hby at_64)
  have V29 : Arv Z h29 b25 k25 .char (3 : Int32) [(.int (nar .char r_1)), (.int (0 : Int32)), (.int (0 : Int32))] (.int (0 : Int32)) := Arv.set Ar28 q28 Sz28 Nn28 Hh28 Gg28 (fits_nar_char _) W29 0 rfl (Nat.le_of_ble_eq_true rfl)
  rw [own_alnar q1_0] at V29
  have Sa30 : Safe Z own_EL s.vm h25 b25 := (Safe.arv hZ.alike V25 (by decide))
  have CH30 := CH26.wr W29 Sa30
  have CR30 := CHr.trans CR26 (CHr.wr W29 Sa30 CH26)
  have K31 : Keep h0 h29 [] := K27.wr W29 (Or.inr B25)
  have N29 := Fr.snoc X29 N21 G25
  refine own_st st29 ?_
  show own_Go p e below T29 (mkF m 65 #[.val (.int p0), .val (.int p1), .val (.int p2), .val (.int p3), .val (.int p4), .val (.int p5), .val (.int r_1), .val (.int r_2), .val (.int r_3), .val (.int r_4), .val (.int (3 : Int32)), .val (.ref b5), .val (.ref b13), .unset, .unset, .unset, .unset, .unset, .unset, .unset] [(.ref b25)]) _
  refine own_st (fun t_ k_ => XS.dup X29.here hx rfl (hb hby at_65) rfl rfl k_) ?_
  show own_Go p e below T29 (mkF m 66 #[.val (.int p0), .val (.int p1), .val (.int p2), .val (.int p3), .val (.int p4), .val (.int p5), .val (.int r_1), .val (.int r_2), .val (.int r_3), .val (.int r_4), .val (.int (3 : Int32)), .val (.ref b5), .val (.ref b13), .unset, .unset, .unset, .unset, .unset, .unset, .unset] [(.ref b25), (.ref b25)]) _
  refine own_st (fun t_ k_ => XS.iconst X29.here hx rfl (hb hby at_66) k_) ?_
  show own_Go p e below T29 (mkF m 67 #[.val (.int p0), .val (.int p1), .val (.int p2), .val (.int p3), .val (.int p4), .val (.int p5), .val (.int r_1), .val (.int r_2), .val (.int r_3), .val (.int r_4), .val (.int (3 : Int32)), .val (.ref b5), .val (.ref b13), .unset, .unset, .unset, .unset, .unset, .unset, .unset] [(.int (1 : Int32)), (.ref b25), (.ref b25)]) _
  refine own_st (fun t_ k_ => XS.iload X29.here hx rfl (hb hby at_67) rfl k_) ?_
  show own_Go p e below T29 (mkF m 69 #[.val (.int p0), .val (.int p1), .val (.int p2), .val (.int p3), .val (.int p4), .val (.int p5), .val (.int r_1), .val (.int r_2), .val (.int r_3), .val (.int r_4), .val (.int (3 : Int32)), .val (.ref b5), .val (.ref b13), .unset, .unset, .unset, .unset, .unset, .unset, .unset] [(.int r_2), (.int (1 : Int32)), (.ref b25), (.ref b25)]) _
  obtain ⟨cl32, Ar32, q32, Sz32, Nn32, Hh32, Gg32⟩ := id V29
  have hin32 : ¬ ((1 : Int32) < 0 ∨ cl32.slots.size ≤ ((1 : Int32)).toNatClampNeg) := inb_of Sz32 ⟨by decide, by decide⟩
  obtain ⟨T33, h33, X33, e33, W33, st33⟩ := stC X29 hx hZ e29 Ar32 (j := (1 : Int32)) hin32 (g := (mkF m 69 #[.val (.int p0), .val (.int p1), .val (.int p2), .val (.int p3), .val (.int p4), .val (.int p5), .val (.int r_1), .val (.int r_2), .val (.int r_3), .val (.int r_4), .val (.int (3 : Int32)), .val (.ref b5), .val (.ref b13), .unset, .unset, .unset, .unset, .unset, .unset, .unset] [(.int r_2), (.int (1 : Int32)), (.ref b25), (.ref b25)])) rfl rfl (hb hby at_69)
  have V33 : Arv Z h33 b25 k25 .char (3 : Int32) [(.int r_1), (.int (nar .char r_2)), (.int (0 : Int32))] (.int (0 : Int32)) := Arv.set Ar32 q32 Sz32 Nn32 Hh32 Gg32 (fits_nar_char _) W33 1 rfl (Nat.le_of_ble_eq_true rfl)
  rw [own_alnar q2_0] at V33
  have Sa34 : Safe Z own_EL s.vm h29 b25 := (Safe.arv hZ.alike V29 (by decide))
  have CH34 := CH30.wr W33 Sa34
  have CR34 := CHr.trans CR30 (CHr.wr W33 Sa34 CH30)
  have K35 : Keep h0 h33 [] := K31.wr W33 (Or.inr B25)
  have N33 := Fr.snoc X33 N29 G25
  refine own_st st33 ?_
  show own_Go p e below T33 (mkF m 70 #[.val (.int p0), .val (.int p1), .val (.int p2), .val (.int p3), .val (.int p4), .val (.int p5), .val (.int r_1), .val (.int r_2), .val (.int r_3), .val (.int r_4), .val (.int (3 : Int32)), .val (.ref b5), .val (.ref b13), .unset, .unset, .unset, .unset, .unset, .unset, .unset] [(.ref b25)]) _
  refine own_st (fun t_ k_ => XS.dup X33.here hx rfl (hb hby at_70) rfl rfl k_) ?_
  show own_Go p e below T33 (mkF m 71 #[.val (.int p0), .val (.int p1), .val (.int p2), .val (.int p3), .val (.int p4), .val (.int p5), .val (.int r_1), .val (.int r_2), .val (.int r_3), .val (.int r_4), .val (.int (3 : Int32)), .val (.ref b5), .val (.ref b13), .unset, .unset, .unset, .unset, .unset, .unset, .unset] [(.ref b25), (.ref b25)]) _
  refine own_st (fun t_ k_ => XS.iconst X33.here hx rfl (hb hby at_71) k_) ?_
  show own_Go p e below T33 (mkF m 72 #[.val (.int p0), .val (.int p1), .val (.int p2), .val (.int p3), .val (.int p4), .val (.int p5), .val (.int r_1), .val (.int r_2), .val (.int r_3), .val (.int r_4), .val (.int (3 : Int32)), .val (.ref b5), .val (.ref b13), .unset, .unset, .unset, .unset, .unset, .unset, .unset] [(.int (2 : Int32)), (.ref b25), (.ref b25)]) _
  refine own_st (fun t_ k_ => XS.iload X33.here hx rfl (hb hby at_72) rfl k_) ?_
  show own_Go p e below T33 (mkF m 74 #[.val (.int p0), .val (.int p1), .val (.int p2), .val (.int p3), .val (.int p4), .val (.int p5), .val (.int r_1), .val (.int r_2), .val (.int r_3), .val (.int r_4), .val (.int (3 : Int32)), .val (.ref b5), .val (.ref b13), .unset, .unset, .unset, .unset, .unset, .unset, .unset] [(.int r_3), (.int (2 : Int32)), (.ref b25), (.ref b25)]) _
  obtain ⟨cl36, Ar36, q36, Sz36, Nn36, Hh36, Gg36⟩ := id V33
  have hin36 : ¬ ((2 : Int32) < 0 ∨ cl36.slots.size ≤ ((2 : Int32)).toNatClampNeg) := inb_of Sz36 ⟨by decide, by decide⟩
  obtain ⟨T37, h37, X37, e37, W37, st37⟩ := stC X33 hx hZ e33 Ar36 (j := (2 : Int32)) hin36 (g := (mkF m 74 #[.val (.int p0), .val (.int p1), .val (.int p2), .val (.int p3), .val (.int p4), .val (.int p5), .val (.int r_1), .val (.int r_2), .val (.int r_3), .val (.int r_4), .val (.int (3 : Int32)), .val (.ref b5), .val (.ref b13), .unset, .unset, .unset, .unset, .unset, .unset, .unset] [(.int r_3), (.int (2 : Int32)), (.ref b25), (.ref b25)])) rfl rfl (hb hby at_74)
  have V37 : Arv Z h37 b25 k25 .char (3 : Int32) [(.int r_1), (.int r_2), (.int (nar .char r_3))] (.int (0 : Int32)) := Arv.set Ar36 q36 Sz36 Nn36 Hh36 Gg36 (fits_nar_char _) W37 2 rfl (Nat.le_of_ble_eq_true rfl)
  rw [own_alnar q3_0] at V37
  have Sa38 : Safe Z own_EL s.vm h33 b25 := (Safe.arv hZ.alike V33 (by decide))
  have CH38 := CH34.wr W37 Sa38
  have CR38 := CHr.trans CR34 (CHr.wr W37 Sa38 CH34)
  have K39 : Keep h0 h37 [] := K35.wr W37 (Or.inr B25)
  have N37 := Fr.snoc X37 N33 G25
  refine own_st st37 ?_
  show own_Go p e below T37 (mkF m 75 #[.val (.int p0), .val (.int p1), .val (.int p2), .val (.int p3), .val (.int p4), .val (.int p5), .val (.int r_1), .val (.int r_2), .val (.int r_3), .val (.int r_4), .val (.int (3 : Int32)), .val (.ref b5), .val (.ref b13), .unset, .unset, .unset, .unset, .unset, .unset, .unset] [(.ref b25)]) _
  refine own_st (fun t_ k_ => XS.astore X37.here hx rfl (hb hby at_75) rfl rfl (l' := #[.val (.int p0), .val (.int p1), .val (.int p2), .val (.int p3), .val (.int p4), .val (.int p5), .val (.int r_1), .val (.int r_2), .val (.int r_3), .val (.int r_4), .val (.int (3 : Int32)), .val (.ref b5), .val (.ref b13), .val (.ref b25), .unset, .unset, .unset, .unset, .unset, .unset]) rfl k_) ?_
  show own_Go p e below T37 (mkF m 77 #[.val (.int p0), .val (.int p1), .val (.int p2), .val (.int p3), .val (.int p4), .val (.int p5), .val (.int r_1), .val (.int r_2), .val (.int r_3), .val (.int r_4), .val (.int (3 : Int32)), .val (.ref b5), .val (.ref b13), .val (.ref b25), .unset, .unset, .unset, .unset, .unset, .unset] []) _
  refine own_st (fun t_ k_ => XS.iconst X37.here hx rfl (hb hby at_77) k_) ?_
  show own_Go p e below T37 (mkF m 78 #[.val (.int p0), .val (.int p1), .val (.int p2), .val (.int p3), .val (.int p4), .val (.int p5), .val (.int r_1), .val (.int r_2), .val (.int r_3), .val (.int r_4), .val (.int (3 : Int32)), .val (.ref b5), .val (.ref b13), .val (.ref b25), .unset, .unset, .unset, .unset, .unset, .unset] [(.int (4 : Int32))]) _
  have f40 := (Nat.le_trans (Nat.le_trans (Nat.le_trans (Nat.le_trans f24 E25.1) (Keep.of_wr W29).1) (Keep.of_wr W33).1) (Keep.of_wr W37).1)
  obtain ⟨T41, h41, k41, X41, e41, E41, A41, st41⟩ := newP X37 hx hZ (hw _ (List.mem_of_getElem? (i := 5) rfl)) e37 (g := (mkF m 78 #[.val (.int p0), .val (.int p1), .val (.int p2), .val (.int p3), .val (.int p4), .val (.int p5), .val (.int r_1), .val (.int r_2), .val (.int r_3), .val (.int r_4), .val (.int (3 : Int32)), .val (.ref b5), .val (.ref b13), .val (.ref b25), .unset, .unset, .unset, .unset, .unset, .unset] [(.int (4 : Int32))])) rfl (hb hby at_78) rfl (by decide) (cap := 4) (by decide) (by decide) (by decide) (by decide)
  obtain ⟨b41, g41⟩ : ∃ z, z = h37.size := ⟨_, rfl⟩
  rw [← g41] at A41 st41
  have G41 : n0 ≤ b41 := Nat.le_trans f40 (Nat.le_of_eq g41.symm)
  have B41 : h0.size ≤ b41 := Nat.le_trans K39.1 (Nat.le_of_eq g41.symm)
  have CH42 := CH38.ext E41
  have CR42 := CHr.trans CR38 (CHr.ext E41 CH38)
  have K43 : Keep h0 h41 [] := K39.ext E41
  have V41 : Arv Z h41 b41 k41 .char (4 : Int32) [(.int (0 : Int32)), (.int (0 : Int32)), (.int (0 : Int32)), (.int (0 : Int32))] (.int (0 : Int32)) := (Arv.new A41 (by decide)).pad (pad_rep [] (.int (0 : Int32)) 4)
  refine own_st st41 ?_
  show own_Go p e below T41 (mkF m 80 #[.val (.int p0), .val (.int p1), .val (.int p2), .val (.int p3), .val (.int p4), .val (.int p5), .val (.int r_1), .val (.int r_2), .val (.int r_3), .val (.int r_4), .val (.int (3 : Int32)), .val (.ref b5), .val (.ref b13), .val (.ref b25), .unset, .unset, .unset, .unset, .unset, .unset] [(.ref b41)]) _
  refine own_st (fun t_ k_ => XS.dup X41.here hx rfl (hb hby at_80) rfl rfl k_) ?_
  show own_Go p e below T41 (mkF m 81 #[.val (.int p0), .val (.int p1), .val (.int p2), .val (.int p3), .val (.int p4), .val (.int p5), .val (.int r_1), .val (.int r_2), .val (.int r_3), .val (.int r_4), .val (.int (3 : Int32)), .val (.ref b5), .val (.ref b13), .val (.ref b25), .unset, .unset, .unset, .unset, .unset, .unset] [(.ref b41), (.ref b41)]) _
  refine own_st (fun t_ k_ => XS.iconst X41.here hx rfl (hb hby at_81) k_) ?_
  show own_Go p e below T41 (mkF m 82 #[.val (.int p0), .val (.int p1), .val (.int p2), .val (.int p3), .val (.int p4), .val (.int p5), .val (.int r_1), .val (.int r_2), .val (.int r_3), .val (.int r_4), .val (.int (3 : Int32)), .val (.ref b5), .val (.ref b13), .val (.ref b25), .unset, .unset, .unset, .unset, .unset, .unset] [(.int (0 : Int32)), (.ref b41), (.ref b41)]) _
  refine own_st (fun t_ k_ => XS.iload X41.here hx rfl (hb hby at_82) rfl k_) ?_
  show own_Go p e below T41 (mkF m 84 #[.val (.int p0), .val (.int p1), .val (.int p2), .val (.int p3), .val (.int p4), .val (.int p5), .val (.int r_1), .val (.int r_2), .val (.int r_3), .val (.int r_4), .val (.int (3 : Int32)), .val (.ref b5), .val (.ref b13), .val (.ref b25), .unset, .unset, .unset, .unset, .unset, .unset] [(.int r_1), (.int (0 : Int32)), (.ref b41), (.ref b41)]) _
  obtain ⟨cl44, Ar44, q44, Sz44, Nn44, Hh44, Gg44⟩ := id V41
  have hin44 : ¬ ((0 : Int32) < 0 ∨ cl44.slots.size ≤ ((0 : Int32)).toNatClampNeg) := inb_of Sz44 ⟨by decide, by decide⟩
  obtain ⟨T45, h45, X45, e45, W45, st45⟩ := stC X41 hx hZ e41 Ar44 (j := (0 : Int32)) hin44 (g := (mkF m 84 #[.val (.int p0), .val (.int p1), .val (.int p2), .val (.int p3), .val (.int p4), .val (.int p5), .val (.int r_1), .val (.int r_2), .val (.int r_3), .val (.int r_4), .val (.int (3 : Int32)), .val (.ref b5), .val (.ref b13), .val (.ref b25), .unset, .unset, .unset, .unset, .unset, .unset] [(.int r_1), (.int (0 : Int32)), (.ref b41), (.ref b41)])) rfl rfl (hb hby at_84)
  have V45 : Arv Z h45 b41 k41 .char (4 : Int32) [(.int (nar .char r_1)), (.int (0 : Int32)), (.int (0 : Int32)), (.int (0 : Int32))] (.int (0 : Int32)) := Arv.set Ar44 q44 Sz44 Nn44 Hh44 Gg44 (fits_nar_char _) W45 0 rfl (Nat.le_of_ble_eq_true rfl)
  rw [own_alnar q1_0] at V45
  have Sa46 : Safe Z own_EL s.vm h41 b41 := (Safe.arv hZ.alike V41 (by decide))
  have CH46 := CH42.wr W45 Sa46
  have CR46 := CHr.trans CR42 (CHr.wr W45 Sa46 CH42)
  have K47 : Keep h0 h45 [] := K43.wr W45 (Or.inr B41)
  have N45 := Fr.snoc X45 N37 G41
  refine own_st st45 ?_
  show own_Go p e below T45 (mkF m 85 #[.val (.int p0), .val (.int p1), .val (.int p2), .val (.int p3), .val (.int p4), .val (.int p5), .val (.int r_1), .val (.int r_2), .val (.int r_3), .val (.int r_4), .val (.int (3 : Int32)), .val (.ref b5), .val (.ref b13), .val (.ref b25), .unset, .unset, .unset, .unset, .unset, .unset] [(.ref b41)]) _
  refine own_st (fun t_ k_ => XS.dup X45.here hx rfl (hb hby at_85) rfl rfl k_) ?_
  show own_Go p e below T45 (mkF m 86 #[.val (.int p0), .val (.int p1), .val (.int p2), .val (.int p3), .val (.int p4), .val (.int p5), .val (.int r_1), .val (.int r_2), .val (.int r_3), .val (.int r_4), .val (.int (3 : Int32)), .val (.ref b5), .val (.ref b13), .val (.ref b25), .unset, .unset, .unset, .unset, .unset, .unset] [(.ref b41), (.ref b41)]) _
  refine own_st (fun t_ k_ => XS.iconst X45.here hx rfl (hb hby at_86) k_) ?_
  show own_Go p e below T45 (mkF m 87 #[.val (.int p0), .val (.int p1), .val (.int p2), .val (.int p3), .val (.int p4), .val (.int p5), .val (.int r_1), .val (.int r_2), .val (.int r_3), .val (.int r_4), .val (.int (3 : Int32)), .val (.ref b5), .val (.ref b13), .val (.ref b25), .unset, .unset, .unset, .unset, .unset, .unset] [(.int (1 : Int32)), (.ref b41), (.ref b41)]) _
  refine own_st (fun t_ k_ => XS.iload X45.here hx rfl (hb hby at_87) rfl k_) ?_
  show own_Go p e below T45 (mkF m 89 #[.val (.int p0), .val (.int p1), .val (.int p2), .val (.int p3), .val (.int p4), .val (.int p5), .val (.int r_1), .val (.int r_2), .val (.int r_3), .val (.int r_4), .val (.int (3 : Int32)), .val (.ref b5), .val (.ref b13), .val (.ref b25), .unset, .unset, .unset, .unset, .unset, .unset] [(.int r_2), (.int (1 : Int32)), (.ref b41), (.ref b41)]) _
  obtain ⟨cl48, Ar48, q48, Sz48, Nn48, Hh48, Gg48⟩ := id V45
  have hin48 : ¬ ((1 : Int32) < 0 ∨ cl48.slots.size ≤ ((1 : Int32)).toNatClampNeg) := inb_of Sz48 ⟨by decide, by decide⟩
  obtain ⟨T49, h49, X49, e49, W49, st49⟩ := stC X45 hx hZ e45 Ar48 (j := (1 : Int32)) hin48 (g := (mkF m 89 #[.val (.int p0), .val (.int p1), .val (.int p2), .val (.int p3), .val (.int p4), .val (.int p5), .val (.int r_1), .val (.int r_2), .val (.int r_3), .val (.int r_4), .val (.int (3 : Int32)), .val (.ref b5), .val (.ref b13), .val (.ref b25), .unset, .unset, .unset, .unset, .unset, .unset] [(.int r_2), (.int (1 : Int32)), (.ref b41), (.ref b41)])) rfl rfl (hb hby at_89)
  have V49 : Arv Z h49 b41 k41 .char (4 : Int32) [(.int r_1), (.int (nar .char r_2)), (.int (0 : Int32)), (.int (0 : Int32))] (.int (0 : Int32)) := Arv.set Ar48 q48 Sz48 Nn48 Hh48 Gg48 (fits_nar_char _) W49 1 rfl (Nat.le_of_ble_eq_true rfl)
  rw [own_alnar q2_0] at V49
  have Sa50 : Safe Z own_EL s.vm h45 b41 := (Safe.arv hZ.alike V45 (by decide))
  have CH50 := CH46.wr W49 Sa50
  have CR50 := CHr.trans CR46 (CHr.wr W49 Sa50 CH46)
  have K51 : Keep h0 h49 [] := K47.wr W49 (Or.inr B41)
  have N49 := Fr.snoc X49 N45 G41
  refine own_st st49 ?_
  show own_Go p e below T49 (mkF m 90 #[.val (.int p0), .val (.int p1), .val (.int p2), .val (.int p3), .val (.int p4), .val (.int p5), .val (.int r_1), .val (.int r_2), .val (.int r_3), .val (.int r_4), .val (.int (3 : Int32)), .val (.ref b5), .val (.ref b13), .val (.ref b25), .unset, .unset, .unset, .unset, .unset, .unset] [(.ref b41)]) _
  refine own_st (fun t_ k_ => XS.dup X49.here hx rfl (hb hby at_90) rfl rfl k_) ?_
  show own_Go p e below T49 (mkF m 91 #[.val (.int p0), .val (.int p1), .val (.int p2), .val (.int p3), .val (.int p4), .val (.int p5), .val (.int r_1), .val (.int r_2), .val (.int r_3), .val (.int r_4), .val (.int (3 : Int32)), .val (.ref b5), .val (.ref b13), .val (.ref b25), .unset, .unset, .unset, .unset, .unset, .unset] [(.ref b41), (.ref b41)]) _
  refine own_st (fun t_ k_ => XS.iconst X49.here hx rfl (hb hby at_91) k_) ?_
  show own_Go p e below T49 (mkF m 92 #[.val (.int p0), .val (.int p1), .val (.int p2), .val (.int p3), .val (.int p4), .val (.int p5), .val (.int r_1), .val (.int r_2), .val (.int r_3), .val (.int r_4), .val (.int (3 : Int32)), .val (.ref b5), .val (.ref b13), .val (.ref b25), .unset, .unset, .unset, .unset, .unset, .unset] [(.int (2 : Int32)), (.ref b41), (.ref b41)]) _
  refine own_st (fun t_ k_ => XS.iload X49.here hx rfl (hb hby at_92) rfl k_) ?_
  show own_Go p e below T49 (mkF m 94 #[.val (.int p0), .val (.int p1), .val (.int p2), .val (.int p3), .val (.int p4), .val (.int p5), .val (.int r_1), .val (.int r_2), .val (.int r_3), .val (.int r_4), .val (.int (3 : Int32)), .val (.ref b5), .val (.ref b13), .val (.ref b25), .unset, .unset, .unset, .unset, .unset, .unset] [(.int r_3), (.int (2 : Int32)), (.ref b41), (.ref b41)]) _
  obtain ⟨cl52, Ar52, q52, Sz52, Nn52, Hh52, Gg52⟩ := id V49
  have hin52 : ¬ ((2 : Int32) < 0 ∨ cl52.slots.size ≤ ((2 : Int32)).toNatClampNeg) := inb_of Sz52 ⟨by decide, by decide⟩
  obtain ⟨T53, h53, X53, e53, W53, st53⟩ := stC X49 hx hZ e49 Ar52 (j := (2 : Int32)) hin52 (g := (mkF m 94 #[.val (.int p0), .val (.int p1), .val (.int p2), .val (.int p3), .val (.int p4), .val (.int p5), .val (.int r_1), .val (.int r_2), .val (.int r_3), .val (.int r_4), .val (.int (3 : Int32)), .val (.ref b5), .val (.ref b13), .val (.ref b25), .unset, .unset, .unset, .unset, .unset, .unset] [(.int r_3), (.int (2 : Int32)), (.ref b41), (.ref b41)])) rfl rfl (hb hby at_94)
  have V53 : Arv Z h53 b41 k41 .char (4 : Int32) [(.int r_1), (.int r_2), (.int (nar .char r_3)), (.int (0 : Int32))] (.int (0 : Int32)) := Arv.set Ar52 q52 Sz52 Nn52 Hh52 Gg52 (fits_nar_char _) W53 2 rfl (Nat.le_of_ble_eq_true rfl)
  rw [own_alnar q3_0] at V53
  have Sa54 : Safe Z own_EL s.vm h49 b41 := (Safe.arv hZ.alike V49 (by decide))
  have CH54 := CH50.wr W53 Sa54
  have CR54 := CHr.trans CR50 (CHr.wr W53 Sa54 CH50)
  have K55 : Keep h0 h53 [] := K51.wr W53 (Or.inr B41)
  have N53 := Fr.snoc X53 N49 G41
  refine own_st st53 ?_
  show own_Go p e below T53 (mkF m 95 #[.val (.int p0), .val (.int p1), .val (.int p2), .val (.int p3), .val (.int p4), .val (.int p5), .val (.int r_1), .val (.int r_2), .val (.int r_3), .val (.int r_4), .val (.int (3 : Int32)), .val (.ref b5), .val (.ref b13), .val (.ref b25), .unset, .unset, .unset, .unset, .unset, .unset] [(.ref b41)]) _
  refine own_st (fun t_ k_ => XS.dup X53.here hx rfl (hb hby at_95) rfl rfl k_) ?_
  show own_Go p e below T53 (mkF m 96 #[.val (.int p0), .val (.int p1), .val (.int p2), .val (.int p3), .val (.int p4), .val (.int p5), .val (.int r_1), .val (.int r_2), .val (.int r_3), .val (.int r_4), .val (.int (3 : Int32)), .val (.ref b5), .val (.ref b13), .val (.ref b25), .unset, .unset, .unset, .unset, .unset, .unset] [(.ref b41), (.ref b41)]) _
  refine own_st (fun t_ k_ => XS.iconst X53.here hx rfl (hb hby at_96) k_) ?_
  show own_Go p e below T53 (mkF m 97 #[.val (.int p0), .val (.int p1), .val (.int p2), .val (.int p3), .val (.int p4), .val (.int p5), .val (.int r_1), .val (.int r_2), .val (.int r_3), .val (.int r_4), .val (.int (3 : Int32)), .val (.ref b5), .val (.ref b13), .val (.ref b25), .unset, .unset, .unset, .unset, .unset, .unset] [(.int (3 : Int32)), (.ref b41), (.ref b41)]) _
  refine own_st (fun t_ k_ => XS.iload X53.here hx rfl (hb hby at_97) rfl k_) ?_
  show own_Go p e below T53 (mkF m 99 #[.val (.int p0), .val (.int p1), .val (.int p2), .val (.int p3), .val (.int p4), .val (.int p5), .val (.int r_1), .val (.int r_2), .val (.int r_3), .val (.int r_4), .val (.int (3 : Int32)), .val (.ref b5), .val (.ref b13), .val (.ref b25), .unset, .unset, .unset, .unset, .unset, .unset] [(.int r_4), (.int (3 : Int32)), (.ref b41), (.ref b41)]) _
  obtain ⟨cl56, Ar56, q56, Sz56, Nn56, Hh56, Gg56⟩ := id V53
  have hin56 : ¬ ((3 : Int32) < 0 ∨ cl56.slots.size ≤ ((3 : Int32)).toNatClampNeg) := inb_of Sz56 ⟨by decide, by decide⟩
  obtain ⟨T57, h57, X57, e57, W57, st57⟩ := stC X53 hx hZ e53 Ar56 (j := (3 : Int32)) hin56 (g := (mkF m 99 #[.val (.int p0), .val (.int p1), .val (.int p2), .val (.int p3), .val (.int p4), .val (.int p5), .val (.int r_1), .val (.int r_2), .val (.int r_3), .val (.int r_4), .val (.int (3 : Int32)), .val (.ref b5), .val (.ref b13), .val (.ref b25), .unset, .unset, .unset, .unset, .unset, .unset] [(.int r_4), (.int (3 : Int32)), (.ref b41), (.ref b41)])) rfl rfl (hb hby at_99)
  have V57 : Arv Z h57 b41 k41 .char (4 : Int32) [(.int r_1), (.int r_2), (.int r_3), (.int (nar .char r_4))] (.int (0 : Int32)) := Arv.set Ar56 q56 Sz56 Nn56 Hh56 Gg56 (fits_nar_char _) W57 3 rfl (Nat.le_of_ble_eq_true rfl)
  rw [own_alnar q4_0] at V57
  have Sa58 : Safe Z own_EL s.vm h53 b41 := (Safe.arv hZ.alike V53 (by decide))
  have CH58 := CH54.wr W57 Sa58
  have CR58 := CHr.trans CR54 (CHr.wr W57 Sa58 CH54)
  have K59 : Keep h0 h57 [] := K55.wr W57 (Or.inr B41)
  have N57 := Fr.snoc X57 N53 G41
  refine own_st st57 ?_
  show own_Go p e below T57 (mkF m 100 #[.val (.int p0), .val (.int p1), .val (.int p2), .val (.int p3), .val (.int p4), .val (.int p5), .val (.int r_1), .val (.int r_2), .val (.int r_3), .val (.int r_4), .val (.int (3 : Int32)), .val (.ref b5), .val (.ref b13), .val (.ref b25), .unset, .unset, .unset, .unset, .unset, .unset] [(.ref b41)]) _
  refine own_st (fun t_ k_ => XS.astore X57.here hx rfl (hb hby at_100) rfl rfl (l' := #[.val (.int p0), .val (.int p1), .val (.int p2), .val (.int p3), .val (.int p4), .val (.int p5), .val (.int r_1), .val (.int r_2), .val (.int r_3), .val (.int r_4), .val (.int (3 : Int32)), .val (.ref b5), .val (.ref b13), .val (.ref b25), .val (.ref b41), .unset, .unset, .unset, .unset, .unset]) rfl k_) ?_
  show own_Go p e below T57 (mkF m 102 #[.val (.int p0), .val (.int p1), .val (.int p2), .val (.int p3), .val (.int p4), .val (.int p5), .val (.int r_1), .val (.int r_2), .val (.int r_3), .val (.int r_4), .val (.int (3 : Int32)), .val (.ref b5), .val (.ref b13), .val (.ref b25), .val (.ref b41), .unset, .unset, .unset, .unset, .unset] []) _
  refine own_st (fun t_ k_ => XS.iload X57.here hx rfl (hb hby at_102) rfl k_) ?_
  show own_Go p e below T57 (mkF m 104 #[.val (.int p0), .val (.int p1), .val (.int p2), .val (.int p3), .val (.int p4), .val (.int p5), .val (.int r_1), .val (.int r_2), .val (.int r_3), .val (.int r_4), .val (.int (3 : Int32)), .val (.ref b5), .val (.ref b13), .val (.ref b25), .val (.ref b41), .unset, .unset, .unset, .unset, .unset] [(.int (3 : Int32))]) _
  refine own_st (fun t_ k_ => XS.iconst X57.here hx rfl (hb hby at_104) k_) ?_
  show own_Go p e below T57 (mkF m 105 #[.val (.int p0), .val (.int p1), .val (.int p2), .val (.int p3), .val (.int p4), .val (.int p5), .val (.int r_1), .val (.int r_2), .val (.int r_3), .val (.int r_4), .val (.int (3 : Int32)), .val (.ref b5), .val (.ref b13), .val (.ref b25), .val (.ref b41), .unset, .unset, .unset, .unset, .unset] [(.int (1 : Int32)), (.int (3 : Int32))]) _
  refine own_st (fun t_ k_ => XS.icmpYes X57.here hx rfl (pc0 := 105) (pc' := 113) rfl (hb hby at_105) rfl (by decide) (by decide) (by decide) k_) ?_
  show own_Go p e below T57 (mkF m 113 #[.val (.int p0), .val (.int p1), .val (.int p2), .val (.int p3), .val (.int p4), .val (.int p5), .val (.int r_1), .val (.int r_2), .val (.int r_3), .val (.int r_4), .val (.int (3 : Int32)), .val (.ref b5), .val (.ref b13), .val (.ref b25), .val (.ref b41), .unset, .unset, .unset, .unset, .unset] []) _
  refine own_st (fun t_ k_ => XS.iload X57.here hx rfl (hb hby at_113) rfl k_) ?_
  show own_Go p e below T57 (mkF m 115 #[.val (.int p0), .val (.int p1), .val (.int p2), .val (.int p3), .val (.int p4), .val (.int p5), .val (.int r_1), .val (.int r_2), .val (.int r_3), .val (.int r_4), .val (.int (3 : Int32)), .val (.ref b5), .val (.ref b13), .val (.ref b25), .val (.ref b41), .unset, .unset, .unset, .unset, .unset] [(.int (3 : Int32))]) _
  refine own_st (fun t_ k_ => XS.iconst X57.here hx rfl (hb hby at_115) k_) ?_
  show own_Go p e below T57 (mkF m 116 #[.val (.int p0), .val (.int p1), .val (.int p2), .val (.int p3), .val (.int p4), .val (.int p5), .val (.int r_1), .val (.int r_2), .val (.int r_3), .val (.int r_4), .val (.int (3 : Int32)), .val (.ref b5), .val (.ref b13), .val (.ref b25), .val (.ref b41), .unset, .unset, .unset, .unset, .unset] [(.int (2 : Int32)), (.int (3 : Int32))]) _
  refine own_st (fun t_ k_ => XS.icmpYes X57.here hx rfl (pc0 := 116) (pc' := 124) rfl (hb hby at_116) rfl (by decide) (by decide) (by decide) k_) ?_
  show own_Go p e below T57 (mkF m 124 #[.val (.int p0), .val (.int p1), .val (.int p2), .val (.int p3), .val (.int p4), .val (.int p5), .val (.int r_1), .val (.int r_2), .val (.int r_3), .val (.int r_4), .val (.int (3 : Int32)), .val (.ref b5), .val (.ref b13), .val (.ref b25), .val (.ref b41), .unset, .unset, .unset, .unset, .unset] []) _
  refine own_st (fun t_ k_ => XS.iload X57.here hx rfl (hb hby at_124) rfl k_) ?_
  show own_Go p e below T57 (mkF m 126 #[.val (.int p0), .val (.int p1), .val (.int p2), .val (.int p3), .val (.int p4), .val (.int p5), .val (.int r_1), .val (.int r_2), .val (.int r_3), .val (.int r_4), .val (.int (3 : Int32)), .val (.ref b5), .val (.ref b13), .val (.ref b25), .val (.ref b41), .unset, .unset, .unset, .unset, .unset] [(.int (3 : Int32))]) _
  refine own_st (fun t_ k_ => XS.iconst X57.here hx rfl (hb hby at_126) k_) ?_
  show own_Go p e below T57 (mkF m 127 #[.val (.int p0), .val (.int p1), .val (.int p2), .val (.int p3), .val (.int p4), .val (.int p5), .val (.int r_1), .val (.int r_2), .val (.int r_3), .val (.int r_4), .val (.int (3 : Int32)), .val (.ref b5), .val (.ref b13), .val (.ref b25), .val (.ref b41), .unset, .unset, .unset, .unset, .unset] [(.int (3 : Int32)), (.int (3 : Int32))]) _
  refine own_st (fun t_ k_ => XS.icmpNo X57.here hx rfl (hb hby at_127) rfl (by decide) k_) ?_
  show own_Go p e below T57 (mkF m 130 #[.val (.int p0), .val (.int p1), .val (.int p2), .val (.int p3), .val (.int p4), .val (.int p5), .val (.int r_1), .val (.int r_2), .val (.int r_3), .val (.int r_4), .val (.int (3 : Int32)), .val (.ref b5), .val (.ref b13), .val (.ref b25), .val (.ref b41), .unset, .unset, .unset, .unset, .unset] []) _
  refine own_st (fun t_ k_ => XS.aload X57.here hx rfl (hb hby at_130) rfl rfl k_) ?_
  show own_Go p e below T57 (mkF m 132 #[.val (.int p0), .val (.int p1), .val (.int p2), .val (.int p3), .val (.int p4), .val (.int p5), .val (.int r_1), .val (.int r_2), .val (.int r_3), .val (.int r_4), .val (.int (3 : Int32)), .val (.ref b5), .val (.ref b13), .val (.ref b25), .val (.ref b41), .unset, .unset, .unset, .unset, .unset] [(.ref b25)]) _
  refine own_st (fun t_ k_ => XS.goto X57.here hx rfl (pc0 := 132) (pc' := 137) rfl (hb hby at_132) (by decide) (by decide) k_) ?_
  show own_Go p e below T57 (mkF m 137 #[.val (.int p0), .val (.int p1), .val (.int p2), .val (.int p3), .val (.int p4), .val (.int p5), .val (.int r_1), .val (.int r_2), .val (.int r_3), .val (.int r_4), .val (.int (3 : Int32)), .val (.ref b5), .val (.ref b13), .val (.ref b25), .val (.ref b41), .unset, .unset, .unset, .unset, .unset] [(.ref b25)]) _
  refine own_st (fun t_ k_ => XS.astore X57.here hx rfl (hb hby at_137) rfl rfl (l' := #[.val (.int p0), .val (.int p1), .val (.int p2), .val (.int p3), .val (.int p4), .val (.int p5), .val (.int r_1), .val (.int r_2), .val (.int r_3), .val (.int r_4), .val (.int (3 : Int32)), .val (.ref b5), .val (.ref b13), .val (.ref b25), .val (.ref b41), .val (.ref b25), .unset, .unset, .unset, .unset]) rfl k_) ?_
  show own_Go p e below T57 (mkF m 139 #[.val (.int p0), .val (.int p1), .val (.int p2), .val (.int p3), .val (.int p4), .val (.int p5), .val (.int r_1), .val (.int r_2), .val (.int r_3), .val (.int r_4), .val (.int (3 : Int32)), .val (.ref b5), .val (.ref b13), .val (.ref b25), .val (.ref b41), .val (.ref b25), .unset, .unset, .unset, .unset] []) _
  have f60 := (Nat.le_trans (Nat.le_trans (Nat.le_trans (Nat.le_trans (Nat.le_trans f40 E41.1) (Keep.of_wr W45).1) (Keep.of_wr W49).1) (Keep.of_wr W53).1) (Keep.of_wr W57).1)
  obtain ⟨T61, h61, X61, e61, E61, A61, D61, -, st61⟩ := newO X57 hx hZ hown (hw _ (List.mem_of_getElem? (i := 6) rfl)) (hw _ (List.mem_of_getElem? (i := 7) rfl)) (hw _ (List.mem_of_getElem? (i := 8) rfl)) e57 (g := (mkF m 139 #[.val (.int p0), .val (.int p1), .val (.int p2), .val (.int p3), .val (.int p4), .val (.int p5), .val (.int r_1), .val (.int r_2), .val (.int r_3), .val (.int r_4), .val (.int (3 : Int32)), .val (.ref b5), .val (.ref b13), .val (.ref b25), .val (.ref b41), .val (.ref b25), .unset, .unset, .unset, .unset] [])) rfl (hb hby at_139) (by decide) (by decide)
  obtain ⟨b61, g61⟩ : ∃ z, z = h57.size := ⟨_, rfl⟩
  rw [← g61] at A61 D61 st61
  have G61 : n0 ≤ b61 := Nat.le_trans f60 (Nat.le_of_eq g61.symm)
  have B61 : h0.size ≤ b61 := Nat.le_trans K59.1 (Nat.le_of_eq g61.symm)
  have CH62 := CH58.ext E61
  have CR62 := CHr.trans CR58 (CHr.ext E61 CH58)
  have K63 : Keep h0 h61 [] := K59.ext E61
  have SF61 : Safe Z own_EL s.vm h61 b61 := Safe.ext E61 CH58 (Safe.new (x := b61) (Nat.le_of_eq g61.symm))
  have D61_coder : Fld Z h61 b61 "java/lang/String" "coder" "B" (.int (0 : Int32)) := D61 (Or.inr (hw _ (List.mem_of_getElem? (i := 32) rfl))) (ty := .byte) (by decide)
  have D61_value : Fld Z h61 b61 "java/lang/String" "value" "[B" .null := D61 (Or.inr (hw _ (List.mem_of_getElem? (i := 34) rfl))) (ty := (.array .byte)) (by decide)
  refine own_st st61 ?_
  show own_Go p e below T61 (mkF m 142 #[.val (.int p0), .val (.int p1), .val (.int p2), .val (.int p3), .val (.int p4), .val (.int p5), .val (.int r_1), .val (.int r_2), .val (.int r_3), .val (.int r_4), .val (.int (3 : Int32)), .val (.ref b5), .val (.ref b13), .val (.ref b25), .val (.ref b41), .val (.ref b25), .unset, .unset, .unset, .unset] [(.ref b61)]) _
  refine own_st (fun t_ k_ => XS.dup X61.here hx rfl (hb hby at_142) rfl rfl k_) ?_
  show own_Go p e below T61 (mkF m 143 #[.val (.int p0), .val (.int p1), .val (.int p2), .val (.int p3), .val (.int p4), .val (.int p5), .val (.int r_1), .val (.int r_2), .val (.int r_3), .val (.int r_4), .val (.int (3 : Int32)), .val (.ref b5), .val (.ref b13), .val (.ref b25), .val (.ref b41), .val (.ref b25), .unset, .unset, .unset, .unset] [(.ref b61), (.ref b61)]) _
  refine own_st (fun t_ k_ => XS.aload X61.here hx rfl (hb hby at_143) rfl rfl k_) ?_
  show own_Go p e below T61 (mkF m 145 #[.val (.int p0), .val (.int p1), .val (.int p2), .val (.int p3), .val (.int p4), .val (.int p5), .val (.int r_1), .val (.int r_2), .val (.int r_3), .val (.int r_4), .val (.int (3 : Int32)), .val (.ref b5), .val (.ref b13), .val (.ref b25), .val (.ref b41), .val (.ref b25), .unset, .unset, .unset, .unset] [(.ref b25), (.ref b61), (.ref b61)]) _
  have hp1 : ∀ c ∈ ([r_1, r_2, r_3] : List Int32), ¬ c < 0 ∧ ¬ (255 : Int32) < c := by
    intro c hc
    simp only [List.mem_cons, List.not_mem_nil, or_false] at hc
    rcases hc with rfl | rfl | rfl
    · exact own_al255 q1_0
    · exact own_al255 q2_0
    · exact own_al255 q3_0
  have f64 := (Nat.le_trans f60 E61.1)
  have f65 := ((((((V37.ext E41).other W45 (Nat.ne_of_lt (Nat.lt_of_lt_of_le V37.lt (Nat.le_of_eq g41.symm)))).other W49 (Nat.ne_of_lt (Nat.lt_of_lt_of_le V37.lt (Nat.le_of_eq g41.symm)))).other W53 (Nat.ne_of_lt (Nat.lt_of_lt_of_le V37.lt (Nat.le_of_eq g41.symm)))).other W57 (Nat.ne_of_lt (Nat.lt_of_lt_of_le V37.lt (Nat.le_of_eq g41.symm)))).ext E61)
  have f66 := (((((((((((((((pO.ext E5).wr W9 G5).ext E13).wr W17 G13).wr W21 G13).ext E25).wr W29 G25).wr W33 G25).wr W37 G25).ext E41).wr W45 G41).wr W49 G41).wr W53 G41).wr W57 G41).ext E61)
  obtain ⟨_, _, ⟨T67, L67, k67, n67⟩, -, X67, ⟨Lc67, hQ67, l67, y67, z67⟩, st67⟩ := X61.specialBack hx (y := (⟨"java/lang/String", "<init>", "([C)V"⟩ : MethodName)) rfl hown (mvT hZ (hw _ (List.mem_of_getElem? (i := 9) rfl))) (mvT hZ (hw _ (List.mem_of_getElem? (i := 10) rfl))) (mvT hZ (hw _ (List.mem_of_getElem? (i := 11) rfl))) (by decide) (StrChars.Road.backV (W := 1) hZ hws (kI := 4) (hw _ (List.mem_of_getElem? (i := 7) rfl)) (cs := ([r_1, r_2, r_3] : List Int32)) (bs := (([r_1, r_2, r_3] : List Int32)).map (fun c => c.toInt8.toInt32)) (n := 3) G61 f64 A61 D61_value D61_coder f65 (pS_COMPACT_STRINGS.ext f66.2) pP5 rfl rfl (by decide) (by decide) hp1 rfl (by decide) (by decide)) (g := (mkF m 145 #[.val (.int p0), .val (.int p1), .val (.int p2), .val (.int p3), .val (.int p4), .val (.int p5), .val (.int r_1), .val (.int r_2), .val (.int r_3), .val (.int r_4), .val (.int (3 : Int32)), .val (.ref b5), .val (.ref b13), .val (.ref b25), .val (.ref b41), .val (.ref b25), .unset, .unset, .unset, .unset] [(.ref b25), (.ref b61), (.ref b61)])) rfl (by rw [hml]; rfl) (Steps.refl _) (a := b61) (argsL := [(.ref b25)]) (rest := [(.ref b61)]) (lenOf pd___C_V rfl) rfl (by show 2 * 0 + _ ≤ _; exact Nat.le_of_eq rfl) (hb hby at_145) (fun _ _ => ⟨rfl, e61, (by decide : 5 + 1 ≤ _), (by decide : 14 + 3 ≤ _)⟩)
  dsimp only [Pt.U, Pt.locs, Pt.cells, Pt.slots] at X67 l67 y67 z67 st67 hQ67
  try dsimp only [Nat.reduceAdd] at y67 z67
  rw [l67, y67, z67] at X67
  obtain ⟨rfl, Nq67, Kq67, q67_E, q67_c, t67, kb67, q67_g, q67_b, q67_n, q67_v, q67_V⟩ := hQ67
  have N67 := Fr.app N57 Nq67
  have Sa68 : ∀ y ∈ [b61], Safe Z own_EL s.vm h61 y := (sfS SF61 sf0)
  have CH68 := CH62.keep Kq67 Sa68
  have CR68 := CHr.trans CR62 (CHr.keep Kq67 Sa68 CH62)
  have K69 : Keep h0 T67.heap [] := K63.trans Kq67 (allS (Or.inr B61) all0)
  have Bf70 : h0.size ≤ t67 := Nat.le_trans K63.1 q67_b
  refine own_tr st67 ?_
  show own_Go p e below T67 (mkF m 148 #[.val (.int p0), .val (.int p1), .val (.int p2), .val (.int p3), .val (.int p4), .val (.int p5), .val (.int r_1), .val (.int r_2), .val (.int r_3), .val (.int r_4), .val (.int (3 : Int32)), .val (.ref b5), .val (.ref b13), .val (.ref b25), .val (.ref b41), .val (.ref b25), .unset, .unset, .unset, .unset] [(.ref b61)]) _
  refine own_st (fun t_ k_ => XS.astore X67.here hx rfl (hb hby at_148) rfl rfl (l' := #[.val (.int p0), .val (.int p1), .val (.int p2), .val (.int p3), .val (.int p4), .val (.int p5), .val (.int r_1), .val (.int r_2), .val (.int r_3), .val (.int r_4), .val (.int (3 : Int32)), .val (.ref b5), .val (.ref b13), .val (.ref b25), .val (.ref b41), .val (.ref b25), .val (.ref b61), .unset, .unset, .unset]) rfl k_) ?_
  show own_Go p e below T67 (mkF m 150 #[.val (.int p0), .val (.int p1), .val (.int p2), .val (.int p3), .val (.int p4), .val (.int p5), .val (.int r_1), .val (.int r_2), .val (.int r_3), .val (.int r_4), .val (.int (3 : Int32)), .val (.ref b5), .val (.ref b13), .val (.ref b25), .val (.ref b41), .val (.ref b25), .val (.ref b61), .unset, .unset, .unset] []) _
  refine own_st (fun t_ k_ => XS.iload X67.here hx rfl (hb hby at_150) rfl k_) ?_
  show own_Go p e below T67 (mkF m 152 #[.val (.int p0), .val (.int p1), .val (.int p2), .val (.int p3), .val (.int p4), .val (.int p5), .val (.int r_1), .val (.int r_2), .val (.int r_3), .val (.int r_4), .val (.int (3 : Int32)), .val (.ref b5), .val (.ref b13), .val (.ref b25), .val (.ref b41), .val (.ref b25), .val (.ref b61), .unset, .unset, .unset] [(.int p5)]) _
  have f71 := (Nat.le_trans f64 Kq67.1)
  obtain ⟨_, _, ⟨T72, L72, k72, n72⟩, -, X72, ⟨Lc72, hQ72, l72, y72, z72⟩, st72⟩ := Jvm.LawKit.callS X67 hx (y := (⟨"com/example/faithful_courier/faithfulcourier/core/NameOfPinLaw", "allowed", "(I)C"⟩ : MethodName)) hown (mvT hZ (hw _ (List.mem_of_getElem? (i := 0) rfl))) (mvT hZ (hw _ (List.mem_of_getElem? (i := 1) rfl))) (mvT hZ (hw _ (List.mem_of_getElem? (i := 2) rfl))) (mvT hZ (hw _ (List.mem_of_getElem? (i := 3) rfl))) (by decide) (backOf (W := 0) (rmAl l Z a0 hw [] p5 T67.heap n0 f71 ) hZ (hw _ (List.mem_of_getElem? (i := 3) rfl)) (hw _ (List.mem_of_getElem? (i := 2) rfl)) (by decide) (by decide)) (g := (mkF m 152 #[.val (.int p0), .val (.int p1), .val (.int p2), .val (.int p3), .val (.int p4), .val (.int p5), .val (.int r_1), .val (.int r_2), .val (.int r_3), .val (.int r_4), .val (.int (3 : Int32)), .val (.ref b5), .val (.ref b13), .val (.ref b25), .val (.ref b41), .val (.ref b25), .val (.ref b61), .unset, .unset, .unset] [(.int p5)])) rfl (by rw [hml]; rfl) (argsL := [(.int p5)]) (rest := []) (lenOf pd__I_C rfl) rfl (by show 2 * 0 + _ ≤ _; exact Nat.le_of_eq rfl) (hb hby at_152) (fun _ _ => ⟨rfl, rfl, (by decide : 6 + 0 ≤ _), (by decide : 17 + 0 ≤ _)⟩)
  dsimp only [Pt.U, Pt.locs, Pt.cells, Pt.slots] at X72 l72 y72 z72 st72 hQ72
  try dsimp only [Nat.reduceAdd] at y72 z72
  rw [l72, y72, z72] at X72
  obtain ⟨r_72, rfl, Nq72, eH72, q72_0⟩ := hQ72
  have N72 := Fr.app N67 Nq72
  refine own_st st72 ?_
  show own_Go p e below T72 (mkF m 155 #[.val (.int p0), .val (.int p1), .val (.int p2), .val (.int p3), .val (.int p4), .val (.int p5), .val (.int r_1), .val (.int r_2), .val (.int r_3), .val (.int r_4), .val (.int (3 : Int32)), .val (.ref b5), .val (.ref b13), .val (.ref b25), .val (.ref b41), .val (.ref b25), .val (.ref b61), .unset, .unset, .unset] [(.int r_72)]) _
  have f73 := (f66.keep Kq67 (allS G61 all0))
  obtain ⟨_, _, ⟨T74, L74, k74, n74⟩, -, X74, ⟨Lc74, hQ74, l74, y74, z74⟩, st74⟩ := Jvm.LawKit.callS X72 hx (y := (⟨"java/lang/String", "valueOf", "(C)Ljava/lang/String;"⟩ : MethodName)) hown (mvT hZ (hw _ (List.mem_of_getElem? (i := 35) rfl))) (mvT hZ (hw _ (List.mem_of_getElem? (i := 36) rfl))) (mvT hZ (hw _ (List.mem_of_getElem? (i := 8) rfl))) (mvT hZ (hw _ (List.mem_of_getElem? (i := 37) rfl))) (by decide) (backOf (W := 0) (rmVo l Z a0 hw [] r_72 zc T67.heap n0 f71 (own_al255 q72_0).2 pS_COMPACT_STRINGS pP5 f73) hZ (hw _ (List.mem_of_getElem? (i := 37) rfl)) (hw _ (List.mem_of_getElem? (i := 8) rfl)) (by decide) (by decide)) (g := (mkF m 155 #[.val (.int p0), .val (.int p1), .val (.int p2), .val (.int p3), .val (.int p4), .val (.int p5), .val (.int r_1), .val (.int r_2), .val (.int r_3), .val (.int r_4), .val (.int (3 : Int32)), .val (.ref b5), .val (.ref b13), .val (.ref b25), .val (.ref b41), .val (.ref b25), .val (.ref b61), .unset, .unset, .unset] [(.int r_72)])) rfl (by rw [hml]; rfl) (argsL := [(.int r_72)]) (rest := []) (lenOf pd__C_Ljava_lang_String_ rfl) rfl (by show 2 * 0 + _ ≤ _; exact Nat.le_of_eq rfl) (hb hby at_155) (fun _ _ => ⟨rfl, eH72, (by decide : 6 + 2 ≤ _), (by decide : 17 + 5 ≤ _)⟩)
  dsimp only [Pt.U, Pt.locs, Pt.cells, Pt.slots] at X74 l74 y74 z74 st74 hQ74
  try dsimp only [Nat.reduceAdd] at y74 z74
  rw [l74, y74, z74] at X74
  obtain ⟨x_74, t_74, kb_74, rfl, Nq74, Kq74, q74_0, q74_1, q74_2, q74_3, q74_4, q74_5, q74_6, q74_7⟩ := hQ74
  have N74 := Fr.app N72 Nq74
  have CH75 := CH68.keep Kq74 sf0
  have CR75 := CHr.trans CR68 (CHr.keep Kq74 sf0 CH68)
  have K76 : Keep h0 T74.heap [] := K69.trans Kq74 all0
  have Bf77 : h0.size ≤ x_74 := Nat.le_trans K69.1 q74_4
  have Bf78 : h0.size ≤ t_74 := Nat.le_trans K69.1 q74_6
  refine own_st st74 ?_
  show own_Go p e below T74 (mkF m 158 #[.val (.int p0), .val (.int p1), .val (.int p2), .val (.int p3), .val (.int p4), .val (.int p5), .val (.int r_1), .val (.int r_2), .val (.int r_3), .val (.int r_4), .val (.int (3 : Int32)), .val (.ref b5), .val (.ref b13), .val (.ref b25), .val (.ref b41), .val (.ref b25), .val (.ref b61), .unset, .unset, .unset] [(.ref x_74)]) _
  have hp2 : ∀ c ∈ ([r_72] : List Int32), ¬ c < 0 ∧ ¬ (255 : Int32) < c := by intro c hc; simp only [List.mem_cons, List.not_mem_nil, or_false] at hc; subst hc; exact own_al255 q72_0
  refine own_st (fun t_ k_ => XS.astore X74.here hx rfl (hb hby at_158) rfl rfl (l' := #[.val (.int p0), .val (.int p1), .val (.int p2), .val (.int p3), .val (.int p4), .val (.int p5), .val (.int r_1), .val (.int r_2), .val (.int r_3), .val (.int r_4), .val (.int (3 : Int32)), .val (.ref b5), .val (.ref b13), .val (.ref b25), .val (.ref b41), .val (.ref b25), .val (.ref b61), .val (.ref x_74), .unset, .unset]) rfl k_) ?_
  show own_Go p e below T74 (mkF m 160 #[.val (.int p0), .val (.int p1), .val (.int p2), .val (.int p3), .val (.int p4), .val (.int p5), .val (.int r_1), .val (.int r_2), .val (.int r_3), .val (.int r_4), .val (.int (3 : Int32)), .val (.ref b5), .val (.ref b13), .val (.ref b25), .val (.ref b41), .val (.ref b25), .val (.ref b61), .val (.ref x_74), .unset, .unset] []) _
  refine own_st (fun t_ k_ => XS.aload X74.here hx rfl (hb hby at_160) rfl rfl k_) ?_
  show own_Go p e below T74 (mkF m 162 #[.val (.int p0), .val (.int p1), .val (.int p2), .val (.int p3), .val (.int p4), .val (.int p5), .val (.int r_1), .val (.int r_2), .val (.int r_3), .val (.int r_4), .val (.int (3 : Int32)), .val (.ref b5), .val (.ref b13), .val (.ref b25), .val (.ref b41), .val (.ref b25), .val (.ref b61), .val (.ref x_74), .unset, .unset] [(.ref b61)]) _
  have f79 := (Nat.le_trans f71 Kq74.1)
  have f80 := (q67_E.keep Kq74)
  have f81 := (q67_v.keep Kq74 nin0)
  have f82 := (q67_c.keep Kq74 nin0)
  have f83 := (q67_V.keep Kq74 nin0)
  have f84 := (f73.keep Kq74 all0)
  have f86 := (Nat.le_trans (Nat.le_trans (Nat.le_trans (Nat.le_trans (Nat.le_trans (Nat.le_trans (Nat.le_trans (Nat.le_trans (Nat.le_trans (Nat.le_trans (Nat.le_trans (Nat.le_trans (Nat.le_trans (Nat.le_trans (Nat.le_trans (Nat.le_trans (Nat.le_trans hK0 E5.1) (Keep.of_wr W9).1) E13.1) (Keep.of_wr W17).1) (Keep.of_wr W21).1) E25.1) (Keep.of_wr W29).1) (Keep.of_wr W33).1) (Keep.of_wr W37).1) E41.1) (Keep.of_wr W45).1) (Keep.of_wr W49).1) (Keep.of_wr W53).1) (Keep.of_wr W57).1) E61.1) Kq67.1) Kq74.1)
  obtain ⟨_, _, ⟨T85, L85, k85, n85⟩, -, Xa85, hSa85, hGa85, ⟨Lc85, hQ85, l85, y85, z85, A85⟩, st85⟩ := Jvm.RoadKit.callSS X74 hx (y := (⟨"com/example/faithful_courier/faithfulcourier/core/Name", "of", "(Ljava/lang/String;)Lcom/example/faithful_courier/faithfulcourier/core/Name;"⟩ : MethodName)) hown (mvT hZ (hw _ (List.mem_of_getElem? (i := 49) rfl))) (mvT hZ (hw _ (List.mem_of_getElem? (i := 50) rfl))) (mvT hZ (hw _ (List.mem_of_getElem? (i := 51) rfl))) (mvT hZ (hw _ (List.mem_of_getElem? (i := 52) rfl))) (by decide) (backOfSH (W := 0) (rmOf3 l Z a0 hw [] b61 t67 kb67 r_1 r_2 r_3 zc fm T74.heap n0 f79 f80 f81 f82 f83 hp1 q1_0 q2_0 q3_0 pS_COMPACT_STRINGS pP5 pS_SIOOBE_FORMATTER rfm f84) hZ (hw _ (List.mem_of_getElem? (i := 52) rfl)) (hw _ (List.mem_of_getElem? (i := 51) rfl)) (by decide) (by decide) hEL CH75) (g := (mkF m 162 #[.val (.int p0), .val (.int p1), .val (.int p2), .val (.int p3), .val (.int p4), .val (.int p5), .val (.int r_1), .val (.int r_2), .val (.int r_3), .val (.int r_4), .val (.int (3 : Int32)), .val (.ref b5), .val (.ref b13), .val (.ref b25), .val (.ref b41), .val (.ref b25), .val (.ref b61), .val (.ref x_74), .unset, .unset] [(.ref b61)])) rfl (by rw [hml]; rfl) (argsL := [(.ref b61)]) (rest := []) (lenOf pd__Ljava_lang_String__Lcom_example_faithful_courier_faithfulcourier_core_Name_ rfl) rfl (by show 2 * 0 + _ ≤ _; exact Nat.le_of_eq rfl) (hb hby at_162) (fun _ _ => ⟨rfl, rfl, (by decide : 8 + 3 ≤ _), (by decide : 22 + 21 ≤ _)⟩)
  dsimp only [Pt.U, Pt.locs, Pt.cells, Pt.slots] at Xa85 hSa85 hGa85 l85 y85 z85 A85 st85 hQ85
  try dsimp only [Nat.reduceAdd] at y85 z85
  rw [l85, y85, z85] at Xa85
  obtain ⟨X85, hS, hZ, hown⟩ := rebS hS f86 Xa85 hSa85 hGa85 hZ hown
  obtain ⟨b_85, rfl, Nq85, Kq85, q85_0, q85_1, q85_2, q85_3⟩ := hQ85
  have N85 := Fr.app N74 Nq85
  have CH87 := A85.1
  have CR87 := CHr.trans CR75 (A85)
  have K88 : Keep h0 T85.heap [] := K76.trans Kq85 all0
  have hK85 : T85.heap.size ≤ T85.heap.size := Nat.le_refl _
  have Bf89 : h0.size ≤ b_85 := Nat.le_trans K76.1 q85_2
  refine own_tr st85 ?_
  show own_Go p e below T85 (mkF m 165 #[.val (.int p0), .val (.int p1), .val (.int p2), .val (.int p3), .val (.int p4), .val (.int p5), .val (.int r_1), .val (.int r_2), .val (.int r_3), .val (.int r_4), .val (.int (3 : Int32)), .val (.ref b5), .val (.ref b13), .val (.ref b25), .val (.ref b41), .val (.ref b25), .val (.ref b61), .val (.ref x_74), .unset, .unset] [(.ref b_85)]) _
  refine own_st (fun t_ k_ => XS.astore X85.here hx rfl (hb hby at_165) rfl rfl (l' := #[.val (.int p0), .val (.int p1), .val (.int p2), .val (.int p3), .val (.int p4), .val (.int p5), .val (.int r_1), .val (.int r_2), .val (.int r_3), .val (.int r_4), .val (.int (3 : Int32)), .val (.ref b5), .val (.ref b13), .val (.ref b25), .val (.ref b41), .val (.ref b25), .val (.ref b61), .val (.ref x_74), .val (.ref b_85), .unset]) rfl k_) ?_
  show own_Go p e below T85 (mkF m 167 #[.val (.int p0), .val (.int p1), .val (.int p2), .val (.int p3), .val (.int p4), .val (.int p5), .val (.int r_1), .val (.int r_2), .val (.int r_3), .val (.int r_4), .val (.int (3 : Int32)), .val (.ref b5), .val (.ref b13), .val (.ref b25), .val (.ref b41), .val (.ref b25), .val (.ref b61), .val (.ref x_74), .val (.ref b_85), .unset] []) _
  refine own_st (fun t_ k_ => XS.aload X85.here hx rfl (hb hby at_167) rfl rfl k_) ?_
  show own_Go p e below T85 (mkF m 169 #[.val (.int p0), .val (.int p1), .val (.int p2), .val (.int p3), .val (.int p4), .val (.int p5), .val (.int r_1), .val (.int r_2), .val (.int r_3), .val (.int r_4), .val (.int (3 : Int32)), .val (.ref b5), .val (.ref b13), .val (.ref b25), .val (.ref b41), .val (.ref b25), .val (.ref b61), .val (.ref x_74), .val (.ref b_85), .unset] [(.ref x_74)]) _
  have f90 := (Nat.le_trans f79 Kq85.1)
  have f91 := (q74_0.keep Kq85)
  have f92 := (q74_1.keep Kq85 nin0)
  have f93 := (q74_2.keep Kq85 nin0)
  have f94 := (q74_3.keep Kq85 nin0)
  have f95 := (f84.keep Kq85 all0)
  obtain ⟨_, _, ⟨T96, L96, k96, n96⟩, -, Xa96, hSa96, hGa96, ⟨Lc96, hQ96, l96, y96, z96, A96⟩, st96⟩ := Jvm.RoadKit.callSS X85 hx (y := (⟨"com/example/faithful_courier/faithfulcourier/core/Name", "of", "(Ljava/lang/String;)Lcom/example/faithful_courier/faithfulcourier/core/Name;"⟩ : MethodName)) hown (mvT hZ (hw _ (List.mem_of_getElem? (i := 49) rfl))) (mvT hZ (hw _ (List.mem_of_getElem? (i := 50) rfl))) (mvT hZ (hw _ (List.mem_of_getElem? (i := 51) rfl))) (mvT hZ (hw _ (List.mem_of_getElem? (i := 52) rfl))) (by decide) (backOfSH (W := 0) (rmOf1 l Z a0 hw [] x_74 t_74 kb_74 r_72 zc fm T85.heap n0 f90 f91 f92 f93 f94 hp2 q72_0 pS_COMPACT_STRINGS pP5 pS_SIOOBE_FORMATTER rfm f95) hZ (hw _ (List.mem_of_getElem? (i := 52) rfl)) (hw _ (List.mem_of_getElem? (i := 51) rfl)) (by decide) (by decide) hEL CH87) (g := (mkF m 169 #[.val (.int p0), .val (.int p1), .val (.int p2), .val (.int p3), .val (.int p4), .val (.int p5), .val (.int r_1), .val (.int r_2), .val (.int r_3), .val (.int r_4), .val (.int (3 : Int32)), .val (.ref b5), .val (.ref b13), .val (.ref b25), .val (.ref b41), .val (.ref b25), .val (.ref b61), .val (.ref x_74), .val (.ref b_85), .unset] [(.ref x_74)])) rfl (by rw [hml]; rfl) (argsL := [(.ref x_74)]) (rest := []) (lenOf pd__Ljava_lang_String__Lcom_example_faithful_courier_faithfulcourier_core_Name_ rfl) rfl (by show 2 * 0 + _ ≤ _; exact Nat.le_of_eq rfl) (hb hby at_169) (fun _ _ => ⟨rfl, rfl, (by decide : 11 + 3 ≤ _), (by decide : 43 + 21 ≤ _)⟩)
  dsimp only [Pt.U, Pt.locs, Pt.cells, Pt.slots] at Xa96 hSa96 hGa96 l96 y96 z96 A96 st96 hQ96
  try dsimp only [Nat.reduceAdd] at y96 z96
  rw [l96, y96, z96] at Xa96
  obtain ⟨X96, hS, hZ, hown⟩ := rebS hS hK85 Xa96 hSa96 hGa96 hZ hown
  obtain ⟨b_96, rfl, Nq96, Kq96, q96_0, q96_1, q96_2, q96_3⟩ := hQ96
  have N96 := Fr.app N85 Nq96
  have CH97 := A96.1
  have CR97 := CHr.trans CR87 (A96)
  have K98 : Keep h0 T96.heap [] := K88.trans Kq96 all0
  have hK96 : T96.heap.size ≤ T96.heap.size := Nat.le_refl _
  have Bf99 : h0.size ≤ b_96 := Nat.le_trans K88.1 q96_2
  refine own_tr st96 ?_
  show own_Go p e below T96 (mkF m 172 #[.val (.int p0), .val (.int p1), .val (.int p2), .val (.int p3), .val (.int p4), .val (.int p5), .val (.int r_1), .val (.int r_2), .val (.int r_3), .val (.int r_4), .val (.int (3 : Int32)), .val (.ref b5), .val (.ref b13), .val (.ref b25), .val (.ref b41), .val (.ref b25), .val (.ref b61), .val (.ref x_74), .val (.ref b_85), .unset] [(.ref b_96)]) _
  refine own_st (fun t_ k_ => XS.astore X96.here hx rfl (hb hby at_172) rfl rfl (l' := #[.val (.int p0), .val (.int p1), .val (.int p2), .val (.int p3), .val (.int p4), .val (.int p5), .val (.int r_1), .val (.int r_2), .val (.int r_3), .val (.int r_4), .val (.int (3 : Int32)), .val (.ref b5), .val (.ref b13), .val (.ref b25), .val (.ref b41), .val (.ref b25), .val (.ref b61), .val (.ref x_74), .val (.ref b_85), .val (.ref b_96)]) rfl k_) ?_
  show own_Go p e below T96 (mkF m 174 #[.val (.int p0), .val (.int p1), .val (.int p2), .val (.int p3), .val (.int p4), .val (.int p5), .val (.int r_1), .val (.int r_2), .val (.int r_3), .val (.int r_4), .val (.int (3 : Int32)), .val (.ref b5), .val (.ref b13), .val (.ref b25), .val (.ref b41), .val (.ref b25), .val (.ref b61), .val (.ref x_74), .val (.ref b_85), .val (.ref b_96)] []) _
  refine own_st (fun t_ k_ => XS.aload X96.here hx rfl (hb hby at_174) rfl rfl k_) ?_
  show own_Go p e below T96 (mkF m 176 #[.val (.int p0), .val (.int p1), .val (.int p2), .val (.int p3), .val (.int p4), .val (.int p5), .val (.int r_1), .val (.int r_2), .val (.int r_3), .val (.int r_4), .val (.int (3 : Int32)), .val (.ref b5), .val (.ref b13), .val (.ref b25), .val (.ref b41), .val (.ref b25), .val (.ref b61), .val (.ref x_74), .val (.ref b_85), .val (.ref b_96)] [(.ref b_85)]) _
  have f100 := (Nat.le_trans f90 Kq96.1)
  have f101 := (q85_1.keep Kq96 nin0)
  have f103 := (q85_0.keep Kq96)
  obtain ⟨cq102, kq102, qa102, qb102, qc102⟩ := isOf hZ rfl f103
  obtain ⟨_, _, ⟨T102, L102, k102, n102⟩, -, X102, ⟨Lc102, hQ102, l102, y102, z102⟩, st102⟩ := X96.virtualBack hx (y := (⟨"com/example/faithful_courier/faithfulcourier/core/Name", "toString", "()Ljava/lang/String;"⟩ : MethodName)) (z := (⟨"com/example/faithful_courier/faithfulcourier/core/Name", "toString", "()Ljava/lang/String;"⟩ : MethodName)) hown (mvT hZ (hw _ (List.mem_of_getElem? (i := 107) rfl))) (mvT hZ (hw _ (List.mem_of_getElem? (i := 108) rfl))) (notFace_of_selects (args := #[]) (mvT hZ (hw _ (List.mem_of_getElem? (i := 110) rfl)))) (mvT hZ (hw _ (List.mem_of_getElem? (i := 110) rfl))) (mvT hZ (hw _ (List.mem_of_getElem? (i := 109) rfl))) (by decide) (backOf (W := 0) (rmTs l Z a0 hw [] b_85 b61 T96.heap n0 f100 f101) hZ (hw _ (List.mem_of_getElem? (i := 111) rfl)) (hw _ (List.mem_of_getElem? (i := 51) rfl)) (by decide) (by decide)) qa102 qc102 (g := (mkF m 176 #[.val (.int p0), .val (.int p1), .val (.int p2), .val (.int p3), .val (.int p4), .val (.int p5), .val (.int r_1), .val (.int r_2), .val (.int r_3), .val (.int r_4), .val (.int (3 : Int32)), .val (.ref b5), .val (.ref b13), .val (.ref b25), .val (.ref b41), .val (.ref b25), .val (.ref b61), .val (.ref x_74), .val (.ref b_85), .val (.ref b_96)] [(.ref b_85)])) rfl (by rw [hml]; rfl) (Steps.refl _) (argsL := []) (rest := []) (lenOf pd___Ljava_lang_String_ rfl) rfl (by show 2 * 0 + _ ≤ _; exact Nat.le_of_eq rfl) (hb hby at_176) (fun _ _ => ⟨rfl, rfl, (by decide : 14 + 0 ≤ _), (by decide : 64 + 0 ≤ _)⟩)
  dsimp only [Pt.U, Pt.locs, Pt.cells, Pt.slots] at X102 l102 y102 z102 st102 hQ102
  try dsimp only [Nat.reduceAdd] at y102 z102
  rw [l102, y102, z102] at X102
  obtain ⟨rfl, Nq102, eH102⟩ := hQ102
  have N102 := Fr.app N96 Nq102
  refine own_tr st102 ?_
  show own_Go p e below T102 (mkF m 179 #[.val (.int p0), .val (.int p1), .val (.int p2), .val (.int p3), .val (.int p4), .val (.int p5), .val (.int r_1), .val (.int r_2), .val (.int r_3), .val (.int r_4), .val (.int (3 : Int32)), .val (.ref b5), .val (.ref b13), .val (.ref b25), .val (.ref b41), .val (.ref b25), .val (.ref b61), .val (.ref x_74), .val (.ref b_85), .val (.ref b_96)] [(.ref b61)]) _
  refine own_st (fun t_ k_ => XS.aload X102.here hx rfl (hb hby at_179) rfl rfl k_) ?_
  show own_Go p e below T102 (mkF m 181 #[.val (.int p0), .val (.int p1), .val (.int p2), .val (.int p3), .val (.int p4), .val (.int p5), .val (.int r_1), .val (.int r_2), .val (.int r_3), .val (.int r_4), .val (.int (3 : Int32)), .val (.ref b5), .val (.ref b13), .val (.ref b25), .val (.ref b41), .val (.ref b25), .val (.ref b61), .val (.ref x_74), .val (.ref b_85), .val (.ref b_96)] [(.ref b61), (.ref b61)]) _
  have hcd104 : StrChars.Road.CodA ([r_1, r_2, r_3] : List Int32) 0 (3 : Int32) ((([r_1, r_2, r_3] : List Int32).map (fun c => c.toInt8.toInt32)).map Value.int) := StrChars.Road.codOf rfl (fun x hx => (hp1 x hx).2)
  have hbd104 : ∀ x ∈ ([r_1, r_2, r_3] : List Int32), ¬ x < 0 ∧ ¬ (65535 : Int32) < x := own_up _ hp1
  have f105 := ((f80.keep Kq85).keep Kq96)
  have f106 := ((f81.keep Kq85 nin0).keep Kq96 nin0)
  have f107 := ((f82.keep Kq85 nin0).keep Kq96 nin0)
  have f108 := ((f83.keep Kq85 nin0).keep Kq96 nin0)
  have f109 := (f95.keep Kq96 all0)
  obtain ⟨cq110, kq110, qa110, qb110, qc110⟩ := isOf hZ eH102 f105
  obtain ⟨_, _, ⟨T110, L110, k110, n110⟩, -, X110, ⟨Lc110, hQ110, l110, y110, z110⟩, st110⟩ := X102.virtualBack hx (y := (⟨"java/lang/String", "equals", "(Ljava/lang/Object;)Z"⟩ : MethodName)) (z := (⟨"java/lang/String", "equals", "(Ljava/lang/Object;)Z"⟩ : MethodName)) hown (mvT hZ (hw _ (List.mem_of_getElem? (i := 112) rfl))) (mvT hZ (hw _ (List.mem_of_getElem? (i := 113) rfl))) (notFace_of_selects (args := #[]) (mvT hZ (hw _ (List.mem_of_getElem? (i := 115) rfl)))) (mvT hZ (hw _ (List.mem_of_getElem? (i := 115) rfl))) (mvT hZ (hw _ (List.mem_of_getElem? (i := 114) rfl))) (by decide) (StrChars.Road.eqW (W := 0) hZ heq (kI := 4) (hw _ (List.mem_of_getElem? (i := 7) rfl)) f105 f106 f107 f108 hcd104 hbd104 (Nat.le_of_ble_eq_true rfl) f105 f106 f107 f108 hcd104 hbd104 (Nat.le_of_ble_eq_true rfl) (pS_COMPACT_STRINGS.ext f109.2) pP5 (by decide) (by decide)) qa110 qc110 (g := (mkF m 181 #[.val (.int p0), .val (.int p1), .val (.int p2), .val (.int p3), .val (.int p4), .val (.int p5), .val (.int r_1), .val (.int r_2), .val (.int r_3), .val (.int r_4), .val (.int (3 : Int32)), .val (.ref b5), .val (.ref b13), .val (.ref b25), .val (.ref b41), .val (.ref b25), .val (.ref b61), .val (.ref x_74), .val (.ref b_85), .val (.ref b_96)] [(.ref b61), (.ref b61)])) rfl (by rw [hml]; rfl) (Steps.refl _) (argsL := [(.ref b61)]) (rest := []) (lenOf pd__Ljava_lang_Object__Z rfl) rfl (by show 2 * 0 + _ ≤ _; exact Nat.le_of_eq rfl) (hb hby at_181) (fun _ _ => ⟨rfl, eH102, (by decide : 14 + 0 ≤ _), (by decide : 64 + 0 ≤ _)⟩)
  dsimp only [Pt.U, Pt.locs, Pt.cells, Pt.slots] at X110 l110 y110 z110 st110 hQ110
  try dsimp only [Nat.reduceAdd] at y110 z110
  rw [l110, y110, z110] at X110
  obtain ⟨hcase110, rfl, eH110⟩ := hQ110
  have N110 := Fr.app N102 (Fr.nil n0)
  have hv110 : _ = some (Value.int 1) := hcase110.elim (fun q => q.1) (fun q => absurd rfl q.2)
  subst hv110
  refine own_tr st110 ?_
  show own_Go p e below T110 (mkF m 184 #[.val (.int p0), .val (.int p1), .val (.int p2), .val (.int p3), .val (.int p4), .val (.int p5), .val (.int r_1), .val (.int r_2), .val (.int r_3), .val (.int r_4), .val (.int (3 : Int32)), .val (.ref b5), .val (.ref b13), .val (.ref b25), .val (.ref b41), .val (.ref b25), .val (.ref b61), .val (.ref x_74), .val (.ref b_85), .val (.ref b_96)] [(.int (1 : Int32))]) _
  refine own_st (fun t_ k_ => XS.ifNo X110.here hx rfl (hb hby at_184) rfl (by decide) k_) ?_
  show own_Go p e below T110 (mkF m 187 #[.val (.int p0), .val (.int p1), .val (.int p2), .val (.int p3), .val (.int p4), .val (.int p5), .val (.int r_1), .val (.int r_2), .val (.int r_3), .val (.int r_4), .val (.int (3 : Int32)), .val (.ref b5), .val (.ref b13), .val (.ref b25), .val (.ref b41), .val (.ref b25), .val (.ref b61), .val (.ref x_74), .val (.ref b_85), .val (.ref b_96)] []) _
  refine own_st (fun t_ k_ => XS.aload X110.here hx rfl (hb hby at_187) rfl rfl k_) ?_
  show own_Go p e below T110 (mkF m 189 #[.val (.int p0), .val (.int p1), .val (.int p2), .val (.int p3), .val (.int p4), .val (.int p5), .val (.int r_1), .val (.int r_2), .val (.int r_3), .val (.int r_4), .val (.int (3 : Int32)), .val (.ref b5), .val (.ref b13), .val (.ref b25), .val (.ref b41), .val (.ref b25), .val (.ref b61), .val (.ref x_74), .val (.ref b_85), .val (.ref b_96)] [(.ref b_85)]) _
  refine own_st (fun t_ k_ => XS.aload X110.here hx rfl (hb hby at_189) rfl rfl k_) ?_
  show own_Go p e below T110 (mkF m 191 #[.val (.int p0), .val (.int p1), .val (.int p2), .val (.int p3), .val (.int p4), .val (.int p5), .val (.int r_1), .val (.int r_2), .val (.int r_3), .val (.int r_4), .val (.int (3 : Int32)), .val (.ref b5), .val (.ref b13), .val (.ref b25), .val (.ref b41), .val (.ref b25), .val (.ref b61), .val (.ref x_74), .val (.ref b_85), .val (.ref b_96)] [(.ref b_96), (.ref b_85)]) _
  have f111 := (f91.keep Kq96)
  have f112 := (f92.keep Kq96 nin0)
  have f113 := (f93.keep Kq96 nin0)
  have f114 := (f94.keep Kq96 nin0)
  obtain ⟨cq115, kq115, qa115, qb115, qc115⟩ := isOf hZ eH110 f103
  obtain ⟨_, _, ⟨T115, L115, k115, n115⟩, -, X115, ⟨Lc115, hQ115, l115, y115, z115⟩, st115⟩ := X110.virtualBack hx (y := (⟨"com/example/faithful_courier/faithfulcourier/core/Name", "equals", "(Ljava/lang/Object;)Z"⟩ : MethodName)) (z := (⟨"com/example/faithful_courier/faithfulcourier/core/Name", "equals", "(Ljava/lang/Object;)Z"⟩ : MethodName)) hown (mvT hZ (hw _ (List.mem_of_getElem? (i := 117) rfl))) (mvT hZ (hw _ (List.mem_of_getElem? (i := 118) rfl))) (notFace_of_selects (args := #[]) (mvT hZ (hw _ (List.mem_of_getElem? (i := 120) rfl)))) (mvT hZ (hw _ (List.mem_of_getElem? (i := 120) rfl))) (mvT hZ (hw _ (List.mem_of_getElem? (i := 119) rfl))) (by decide) (backOf (W := 0) (rmEq3 l Z a0 hw [] b_85 b_96 b61 t67 kb67 x_74 t_74 kb_74 r_1 r_2 r_3 r_72 zc fm T96.heap n0 f100 f101 q96_0 q96_1 f105 f106 f107 f108 hp1 f111 f112 f113 f114 hp2 pS_COMPACT_STRINGS pP5 pS_SIOOBE_FORMATTER rfm f109) hZ (hw _ (List.mem_of_getElem? (i := 121) rfl)) (hw _ (List.mem_of_getElem? (i := 51) rfl)) (by decide) (by decide)) qa115 qc115 (g := (mkF m 191 #[.val (.int p0), .val (.int p1), .val (.int p2), .val (.int p3), .val (.int p4), .val (.int p5), .val (.int r_1), .val (.int r_2), .val (.int r_3), .val (.int r_4), .val (.int (3 : Int32)), .val (.ref b5), .val (.ref b13), .val (.ref b25), .val (.ref b41), .val (.ref b25), .val (.ref b61), .val (.ref x_74), .val (.ref b_85), .val (.ref b_96)] [(.ref b_96), (.ref b_85)])) rfl (by rw [hml]; rfl) (Steps.refl _) (argsL := [(.ref b_96)]) (rest := []) (lenOf pd__Ljava_lang_Object__Z rfl) rfl (by show 2 * 0 + _ ≤ _; exact Nat.le_of_eq rfl) (hb hby at_191) (fun _ _ => ⟨rfl, eH110, (by decide : 14 + 0 ≤ _), (by decide : 64 + 0 ≤ _)⟩)
  dsimp only [Pt.U, Pt.locs, Pt.cells, Pt.slots] at X115 l115 y115 z115 st115 hQ115
  try dsimp only [Nat.reduceAdd] at y115 z115
  rw [l115, y115, z115] at X115
  obtain ⟨r_115, rfl, Nq115, eH115, q115_0⟩ := hQ115
  have N115 := Fr.app N110 Nq115
  refine own_tr st115 ?_
  show own_Go p e below T115 (mkF m 194 #[.val (.int p0), .val (.int p1), .val (.int p2), .val (.int p3), .val (.int p4), .val (.int p5), .val (.int r_1), .val (.int r_2), .val (.int r_3), .val (.int r_4), .val (.int (3 : Int32)), .val (.ref b5), .val (.ref b13), .val (.ref b25), .val (.ref b41), .val (.ref b25), .val (.ref b61), .val (.ref x_74), .val (.ref b_85), .val (.ref b_96)] [(.int r_115)]) _
  refine own_st (fun t_ k_ => XS.aload X115.here hx rfl (hb hby at_194) rfl rfl k_) ?_
  show own_Go p e below T115 (mkF m 196 #[.val (.int p0), .val (.int p1), .val (.int p2), .val (.int p3), .val (.int p4), .val (.int p5), .val (.int r_1), .val (.int r_2), .val (.int r_3), .val (.int r_4), .val (.int (3 : Int32)), .val (.ref b5), .val (.ref b13), .val (.ref b25), .val (.ref b41), .val (.ref b25), .val (.ref b61), .val (.ref x_74), .val (.ref b_85), .val (.ref b_96)] [(.ref b61), (.int r_115)]) _
  refine own_st (fun t_ k_ => XS.aload X115.here hx rfl (hb hby at_196) rfl rfl k_) ?_
  show own_Go p e below T115 (mkF m 198 #[.val (.int p0), .val (.int p1), .val (.int p2), .val (.int p3), .val (.int p4), .val (.int p5), .val (.int r_1), .val (.int r_2), .val (.int r_3), .val (.int r_4), .val (.int (3 : Int32)), .val (.ref b5), .val (.ref b13), .val (.ref b25), .val (.ref b41), .val (.ref b25), .val (.ref b61), .val (.ref x_74), .val (.ref b_85), .val (.ref b_96)] [(.ref x_74), (.ref b61), (.int r_115)]) _
  have hcd116 : StrChars.Road.CodA ([r_72] : List Int32) 0 (1 : Int32) ((([r_72] : List Int32).map (fun c => c.toInt8.toInt32)).map Value.int) := StrChars.Road.codOf rfl (fun x hx => (hp2 x hx).2)
  have hbd116 : ∀ x ∈ ([r_72] : List Int32), ¬ x < 0 ∧ ¬ (65535 : Int32) < x := own_up _ hp2
  obtain ⟨cq117, kq117, qa117, qb117, qc117⟩ := isOf hZ eH115 f105
  obtain ⟨_, _, ⟨T117, L117, k117, n117⟩, -, X117, ⟨Lc117, hQ117, l117, y117, z117⟩, st117⟩ := X115.virtualBack hx (y := (⟨"java/lang/String", "equals", "(Ljava/lang/Object;)Z"⟩ : MethodName)) (z := (⟨"java/lang/String", "equals", "(Ljava/lang/Object;)Z"⟩ : MethodName)) hown (mvT hZ (hw _ (List.mem_of_getElem? (i := 112) rfl))) (mvT hZ (hw _ (List.mem_of_getElem? (i := 113) rfl))) (notFace_of_selects (args := #[]) (mvT hZ (hw _ (List.mem_of_getElem? (i := 115) rfl)))) (mvT hZ (hw _ (List.mem_of_getElem? (i := 115) rfl))) (mvT hZ (hw _ (List.mem_of_getElem? (i := 114) rfl))) (by decide) (StrChars.Road.eqW (W := 1) hZ heq (kI := 4) (hw _ (List.mem_of_getElem? (i := 7) rfl)) f105 f106 f107 f108 hcd104 hbd104 (Nat.le_of_ble_eq_true rfl) f111 f112 f113 f114 hcd116 hbd116 (Nat.le_of_ble_eq_true rfl) (pS_COMPACT_STRINGS.ext f109.2) pP5 (by decide) (by decide)) qa117 qc117 (g := (mkF m 198 #[.val (.int p0), .val (.int p1), .val (.int p2), .val (.int p3), .val (.int p4), .val (.int p5), .val (.int r_1), .val (.int r_2), .val (.int r_3), .val (.int r_4), .val (.int (3 : Int32)), .val (.ref b5), .val (.ref b13), .val (.ref b25), .val (.ref b41), .val (.ref b25), .val (.ref b61), .val (.ref x_74), .val (.ref b_85), .val (.ref b_96)] [(.ref x_74), (.ref b61), (.int r_115)])) rfl (by rw [hml]; rfl) (Steps.refl _) (argsL := [(.ref x_74)]) (rest := [(.int r_115)]) (lenOf pd__Ljava_lang_Object__Z rfl) rfl (by show 2 * 0 + _ ≤ _; exact Nat.le_of_eq rfl) (hb hby at_198) (fun _ _ => ⟨rfl, eH115, (by decide : 14 + 0 ≤ _), (by decide : 64 + 0 ≤ _)⟩)
  dsimp only [Pt.U, Pt.locs, Pt.cells, Pt.slots] at X117 l117 y117 z117 st117 hQ117
  try dsimp only [Nat.reduceAdd] at y117 z117
  rw [l117, y117, z117] at X117
  obtain ⟨hcase117, rfl, eH117⟩ := hQ117
  have N117 := Fr.app N115 (Fr.nil n0)
  rcases q115_0 with hy | hy
  · skip
    have hv117 : _ = some (Value.int 1) := hcase117.elim (fun q => q.1) (fun q => absurd hy.2 q.2)
    subst hv117
    refine own_tr st117 ?_
    show own_Go p e below T117 (mkF m 201 #[.val (.int p0), .val (.int p1), .val (.int p2), .val (.int p3), .val (.int p4), .val (.int p5), .val (.int r_1), .val (.int r_2), .val (.int r_3), .val (.int r_4), .val (.int (3 : Int32)), .val (.ref b5), .val (.ref b13), .val (.ref b25), .val (.ref b41), .val (.ref b25), .val (.ref b61), .val (.ref x_74), .val (.ref b_85), .val (.ref b_96)] [(.int (1 : Int32)), (.int r_115)]) _
    have hrr := hy.1
    refine own_st (fun t_ k_ => XS.icmpNo X117.here hx rfl (hb hby at_201) rfl (teq hrr).2 k_) ?_
    show own_Go p e below T117 (mkF m 204 #[.val (.int p0), .val (.int p1), .val (.int p2), .val (.int p3), .val (.int p4), .val (.int p5), .val (.int r_1), .val (.int r_2), .val (.int r_3), .val (.int r_4), .val (.int (3 : Int32)), .val (.ref b5), .val (.ref b13), .val (.ref b25), .val (.ref b41), .val (.ref b25), .val (.ref b61), .val (.ref x_74), .val (.ref b_85), .val (.ref b_96)] []) _
    refine own_st (fun t_ k_ => XS.iconst X117.here hx rfl (hb hby at_204) k_) ?_
    show own_Go p e below T117 (mkF m 205 #[.val (.int p0), .val (.int p1), .val (.int p2), .val (.int p3), .val (.int p4), .val (.int p5), .val (.int r_1), .val (.int r_2), .val (.int r_3), .val (.int r_4), .val (.int (3 : Int32)), .val (.ref b5), .val (.ref b13), .val (.ref b25), .val (.ref b41), .val (.ref b25), .val (.ref b61), .val (.ref x_74), .val (.ref b_85), .val (.ref b_96)] [(.int (1 : Int32))]) _
    refine own_st (fun t_ k_ => XS.goto X117.here hx rfl (pc0 := 205) (pc' := 209) rfl (hb hby at_205) (by decide) (by decide) k_) ?_
    show own_Go p e below T117 (mkF m 209 #[.val (.int p0), .val (.int p1), .val (.int p2), .val (.int p3), .val (.int p4), .val (.int p5), .val (.int r_1), .val (.int r_2), .val (.int r_3), .val (.int r_4), .val (.int (3 : Int32)), .val (.ref b5), .val (.ref b13), .val (.ref b25), .val (.ref b41), .val (.ref b25), .val (.ref b61), .val (.ref x_74), .val (.ref b_85), .val (.ref b_96)] [(.int (1 : Int32))]) _
    obtain ⟨fs, hr, hrun, hended, hRW⟩ := X117.leaveW hS (by rw [eH117]; exact hK96) (v := some (.int (1 : Int32))) (fun h => by rw [Bd.returns] at h; cases h)
    have hCend : CHr Z own_EL s.vm s.heap T117.vm T117.heap := by
      rw [hh, eH117]
      exact CHr.trans CR97 (CHv.at X117 hZ hEL CH97)
    refine own_fin (retN X117 hx (t := .boolean) Bd.returns (by simp) (hb hby at_209) hr) ⟨hrun, hended, _, _, rfl, ?_, hCend, hRW.1, hRW.2.1, hRW.2.2.1, hRW.2.2.2.mono (by decide) (by decide)⟩
    show Q_rmLaw3 Z p0 p1 p2 p3 p4 p5 zc fm h0 n0 _ T117.heap _
    rw [eH117]
    exact ⟨rfl, N117, K98⟩
  · skip
    have hv117 : _ = some (Value.int 0) := hcase117.elim (fun q => absurd q.2 hy.2) (fun q => q.1)
    subst hv117
    refine own_tr st117 ?_
    show own_Go p e below T117 (mkF m 201 #[.val (.int p0), .val (.int p1), .val (.int p2), .val (.int p3), .val (.int p4), .val (.int p5), .val (.int r_1), .val (.int r_2), .val (.int r_3), .val (.int r_4), .val (.int (3 : Int32)), .val (.ref b5), .val (.ref b13), .val (.ref b25), .val (.ref b41), .val (.ref b25), .val (.ref b61), .val (.ref x_74), .val (.ref b_85), .val (.ref b_96)] [(.int (0 : Int32)), (.int r_115)]) _
    have hrr := hy.1
    refine own_st (fun t_ k_ => XS.icmpNo X117.here hx rfl (hb hby at_201) rfl (teq hrr).2 k_) ?_
    show own_Go p e below T117 (mkF m 204 #[.val (.int p0), .val (.int p1), .val (.int p2), .val (.int p3), .val (.int p4), .val (.int p5), .val (.int r_1), .val (.int r_2), .val (.int r_3), .val (.int r_4), .val (.int (3 : Int32)), .val (.ref b5), .val (.ref b13), .val (.ref b25), .val (.ref b41), .val (.ref b25), .val (.ref b61), .val (.ref x_74), .val (.ref b_85), .val (.ref b_96)] []) _
    refine own_st (fun t_ k_ => XS.iconst X117.here hx rfl (hb hby at_204) k_) ?_
    show own_Go p e below T117 (mkF m 205 #[.val (.int p0), .val (.int p1), .val (.int p2), .val (.int p3), .val (.int p4), .val (.int p5), .val (.int r_1), .val (.int r_2), .val (.int r_3), .val (.int r_4), .val (.int (3 : Int32)), .val (.ref b5), .val (.ref b13), .val (.ref b25), .val (.ref b41), .val (.ref b25), .val (.ref b61), .val (.ref x_74), .val (.ref b_85), .val (.ref b_96)] [(.int (1 : Int32))]) _
    refine own_st (fun t_ k_ => XS.goto X117.here hx rfl (pc0 := 205) (pc' := 209) rfl (hb hby at_205) (by decide) (by decide) k_) ?_
    show own_Go p e below T117 (mkF m 209 #[.val (.int p0), .val (.int p1), .val (.int p2), .val (.int p3), .val (.int p4), .val (.int p5), .val (.int r_1), .val (.int r_2), .val (.int r_3), .val (.int r_4), .val (.int (3 : Int32)), .val (.ref b5), .val (.ref b13), .val (.ref b25), .val (.ref b41), .val (.ref b25), .val (.ref b61), .val (.ref x_74), .val (.ref b_85), .val (.ref b_96)] [(.int (1 : Int32))]) _
    obtain ⟨fs, hr, hrun, hended, hRW⟩ := X117.leaveW hS (by rw [eH117]; exact hK96) (v := some (.int (1 : Int32))) (fun h => by rw [Bd.returns] at h; cases h)
    have hCend : CHr Z own_EL s.vm s.heap T117.vm T117.heap := by
      rw [hh, eH117]
      exact CHr.trans CR97 (CHv.at X117 hZ hEL CH97)
    refine own_fin (retN X117 hx (t := .boolean) Bd.returns (by simp) (hb hby at_209) hr) ⟨hrun, hended, _, _, rfl, ?_, hCend, hRW.1, hRW.2.1, hRW.2.2.1, hRW.2.2.2.mono (by decide) (by decide)⟩
    show Q_rmLaw3 Z p0 p1 p2 p3 p4 p5 zc fm h0 n0 _ T117.heap _
    rw [eH117]
    exact ⟨rfl, N117, K98⟩
theorem ef_rmLaw4 (m : MethodId) (x0 : Int32) (x1 : Int32) (x2 : Int32) (x3 : Int32) (x4 : Int32) (x5 : Int32) : entryFrame m #[(.int x0), (.int x1), (.int x2), (.int x3), (.int x4), (.int x5)] maxLocals = mkF m 0 #[.val (.int x0), .val (.int x1), .val (.int x2), .val (.int x3), .val (.int x4), .val (.int x5), .unset, .unset, .unset, .unset, .unset, .unset, .unset, .unset, .unset, .unset, .unset, .unset, .unset, .unset] [] := by first | (simp [entryFrame, mkF, argsToLocals, Value.category, maxLocals]; done) | rfl
def Q_rmLaw4 (Z : State) (p0 : Int32) (p1 : Int32) (p2 : Int32) (p3 : Int32) (p4 : Int32) (p5 : Int32) (zc : Int32) (fm : Value) (h0 : Heap) (n0 : Nat) (v : Option Value) (h : Heap) (L : List Loc) : Prop := v = some (.int (1 : Int32)) ∧ Fr n0 L ∧ Keep h0 h []
set_option maxRecDepth 65536 in
set_option maxHeartbeats 40000000 in
theorem rmLaw4 (l : Launch) (Z : State) (a0 : Array Value) (hw : ∀ d ∈ tables_1, d.before a0 Z = true) (ws : List Jvm.Cond) (p0 : Int32) (p1 : Int32) (p2 : Int32) (p3 : Int32) (p4 : Int32) (p5 : Int32) (zc : Int32) (fm : Value) (h0 : Heap) (n0 : Nat) (Z0 : n0 ≤ h0.size) (pS_COMPACT_STRINGS : Sta Z Z.heap "java/lang/String" "COMPACT_STRINGS" "Z" (.int zc)) (pP5 : (¬ (zc = (0 : Int32)))) (pS_SIOOBE_FORMATTER : Sta Z Z.heap "jdk/internal/util/Preconditions" "SIOOBE_FORMATTER" "Ljava/util/function/BiFunction;" fm) (rfm : (fm.isRef = true)) (pO : Old Z n0 h0) (hn : ((1 : Int32) + (p4 &&& (3 : Int32)) = (4 : Int32))) :
    MetFree l x (head1 (Jvm.Cond.code x code maxLocals ret :: ws) room_1) (fun a U => a = #[(.int p0), (.int p1), (.int p2), (.int p3), (.int p4), (.int p5)] ∧ Z.Warmed39 U.vm ∧ U.heap = h0 ∧ CHv Z own_EL U.vm h0) (fun _ _ _ _ _ => True) (fun _ U o U' => ∃ v L, o = .returned v ∧ Q_rmLaw4 Z p0 p1 p2 p3 p4 p5 zc fm h0 n0 v U'.heap L ∧ CHr Z own_EL U.vm U.heap U'.vm U'.heap ∧ ReturnedEndW U o U' L 32 1152) := by
  refine MetFree.of_bodySF (plainFor_of_name pn_0) hisR ?_
  intro p e s m args below meth c s₁ Bd hml0 hP hK
  obtain ⟨rfl, hZ, hh, hCH⟩ := hP
  have hx := Bd.exec
  have hby := Bd.bytes
  have hml : c.maxLocals = 20 := hml0
  have hown : s.vm.findClass "com/example/faithful_courier/faithfulcourier/core/NameOfPinLaw" = some m.cls := findClass_of_methodNamed Bd.named
  have hnm := (name_of_methodNamed Bd.named Bd.method).1
  have X0 : Stand p l e room_1 (s.setVm s.vm) m #[(.int p0), (.int p1), (.int p2), (.int p3), (.int p4), (.int p5)] below meth c s₁ [] 0 0 := Stand.of_body Bd
  have e0 : s₁.heap = h0 := by rw [← hh, Bd.state]; rfl
  have N0 := Fr.nil n0
  have hEL := own_EW hw
  have hCR := CHr.refl hCH
  have hS : s.Since s.vm h0.size := (State.WarmedH.refl s).since _
  have hK0 : h0.size ≤ h0.size := Nat.le_refl _
  refine own_enter (ef_rmLaw4 m p0 p1 p2 p3 p4 p5) ?_
  have hws : ∀ d ∈ StrChars.Road.words, d.before a0 Z = true := fun d hd => hw d ((by decide +kernel : ∀ d ∈ StrChars.Road.words, d ∈ tables_1) d hd)
  have heq : ∀ d ∈ StrChars.Road.wordsEq, d.before a0 Z = true := fun d hd => hw d ((by decide +kernel : ∀ d ∈ StrChars.Road.wordsEq, d ∈ tables_1) d hd)
  refine own_st (fun t_ k_ => XS.iloadN X0.here hx rfl (hb hby at_0) rfl k_) ?_
  show own_Go p e below s₁ (mkF m 1 #[.val (.int p0), .val (.int p1), .val (.int p2), .val (.int p3), .val (.int p4), .val (.int p5), .unset, .unset, .unset, .unset, .unset, .unset, .unset, .unset, .unset, .unset, .unset, .unset, .unset, .unset] [(.int p0)]) _
  obtain ⟨_, _, ⟨T1, L1, k1, n1⟩, -, X1, ⟨Lc1, hQ1, l1, y1, z1⟩, st1⟩ := Jvm.LawKit.callS X0 hx (y := (⟨"com/example/faithful_courier/faithfulcourier/core/NameOfPinLaw", "allowed", "(I)C"⟩ : MethodName)) hown (mvT hZ (hw _ (List.mem_of_getElem? (i := 0) rfl))) (mvT hZ (hw _ (List.mem_of_getElem? (i := 1) rfl))) (mvT hZ (hw _ (List.mem_of_getElem? (i := 2) rfl))) (mvT hZ (hw _ (List.mem_of_getElem? (i := 3) rfl))) (by decide) (backOf (W := 0) (rmAl l Z a0 hw [] p0 h0 n0 Z0 ) hZ (hw _ (List.mem_of_getElem? (i := 3) rfl)) (hw _ (List.mem_of_getElem? (i := 2) rfl)) (by decide) (by decide)) (g := (mkF m 1 #[.val (.int p0), .val (.int p1), .val (.int p2), .val (.int p3), .val (.int p4), .val (.int p5), .unset, .unset, .unset, .unset, .unset, .unset, .unset, .unset, .unset, .unset, .unset, .unset, .unset, .unset] [(.int p0)])) rfl (by rw [hml]; rfl) (argsL := [(.int p0)]) (rest := []) (lenOf pd__I_C rfl) rfl (by show 2 * 0 + _ ≤ _; exact Nat.le_of_eq rfl) (hb hby at_1) (fun _ _ => ⟨rfl, e0, (by decide : 0 + 0 ≤ _), (by decide : 0 + 0 ≤ _)⟩)
  dsimp only [Pt.U, Pt.locs, Pt.cells, Pt.slots] at X1 l1 y1 z1 st1 hQ1
  try dsimp only [Nat.reduceAdd] at y1 z1
  rw [l1, y1, z1] at X1
  obtain ⟨r_1, rfl, Nq1, eH1, q1_0⟩ := hQ1
  have N1 := Fr.app N0 Nq1
  refine own_st st1 ?_
  show own_Go p e below T1 (mkF m 4 #[.val (.int p0), .val (.int p1), .val (.int p2), .val (.int p3), .val (.int p4), .val (.int p5), .unset, .unset, .unset, .unset, .unset, .unset, .unset, .unset, .unset, .unset, .unset, .unset, .unset, .unset] [(.int r_1)]) _
  refine own_st (fun t_ k_ => XS.istore X1.here hx rfl (hb hby at_4) rfl (l' := #[.val (.int p0), .val (.int p1), .val (.int p2), .val (.int p3), .val (.int p4), .val (.int p5), .val (.int r_1), .unset, .unset, .unset, .unset, .unset, .unset, .unset, .unset, .unset, .unset, .unset, .unset, .unset]) rfl k_) ?_
  show own_Go p e below T1 (mkF m 6 #[.val (.int p0), .val (.int p1), .val (.int p2), .val (.int p3), .val (.int p4), .val (.int p5), .val (.int r_1), .unset, .unset, .unset, .unset, .unset, .unset, .unset, .unset, .unset, .unset, .unset, .unset, .unset] []) _
  refine own_st (fun t_ k_ => XS.iloadN X1.here hx rfl (hb hby at_6) rfl k_) ?_
  show own_Go p e below T1 (mkF m 7 #[.val (.int p0), .val (.int p1), .val (.int p2), .val (.int p3), .val (.int p4), .val (.int p5), .val (.int r_1), .unset, .unset, .unset, .unset, .unset, .unset, .unset, .unset, .unset, .unset, .unset, .unset, .unset] [(.int p1)]) _
  obtain ⟨_, _, ⟨T2, L2, k2, n2⟩, -, X2, ⟨Lc2, hQ2, l2, y2, z2⟩, st2⟩ := Jvm.LawKit.callS X1 hx (y := (⟨"com/example/faithful_courier/faithfulcourier/core/NameOfPinLaw", "allowed", "(I)C"⟩ : MethodName)) hown (mvT hZ (hw _ (List.mem_of_getElem? (i := 0) rfl))) (mvT hZ (hw _ (List.mem_of_getElem? (i := 1) rfl))) (mvT hZ (hw _ (List.mem_of_getElem? (i := 2) rfl))) (mvT hZ (hw _ (List.mem_of_getElem? (i := 3) rfl))) (by decide) (backOf (W := 0) (rmAl l Z a0 hw [] p1 h0 n0 Z0 ) hZ (hw _ (List.mem_of_getElem? (i := 3) rfl)) (hw _ (List.mem_of_getElem? (i := 2) rfl)) (by decide) (by decide)) (g := (mkF m 7 #[.val (.int p0), .val (.int p1), .val (.int p2), .val (.int p3), .val (.int p4), .val (.int p5), .val (.int r_1), .unset, .unset, .unset, .unset, .unset, .unset, .unset, .unset, .unset, .unset, .unset, .unset, .unset] [(.int p1)])) rfl (by rw [hml]; rfl) (argsL := [(.int p1)]) (rest := []) (lenOf pd__I_C rfl) rfl (by show 2 * 0 + _ ≤ _; exact Nat.le_of_eq rfl) (hb hby at_7) (fun _ _ => ⟨rfl, eH1, (by decide : 0 + 0 ≤ _), (by decide : 0 + 0 ≤ _)⟩)
  dsimp only [Pt.U, Pt.locs, Pt.cells, Pt.slots] at X2 l2 y2 z2 st2 hQ2
  try dsimp only [Nat.reduceAdd] at y2 z2
  rw [l2, y2, z2] at X2
  obtain ⟨r_2, rfl, Nq2, eH2, q2_0⟩ := hQ2
  have N2 := Fr.app N1 Nq2
  refine own_st st2 ?_
  show own_Go p e below T2 (mkF m 10 #[.val (.int p0), .val (.int p1), .val (.int p2), .val (.int p3), .val (.int p4), .val (.int p5), .val (.int r_1), .unset, .unset, .unset, .unset, .unset, .unset, .unset, .unset, .unset, .unset, .unset, .unset, .unset] [(.int r_2)]) _
  refine own_st (fun t_ k_ => XS.istore X2.here hx rfl (hb hby at_10) rfl (l' := #[.val (.int p0), .val (.int p1), .val (.int p2), .val (.int p3), .val (.int p4), .val (.int p5), .val (.int r_1), .val (.int r_2), .unset, .unset, .unset, .unset, .unset, .unset, .unset, .unset, .unset, .unset, .unset, .unset]) rfl k_) ?_
  show own_Go p e below T2 (mkF m 12 #[.val (.int p0), .val (.int p1), .val (.int p2), .val (.int p3), .val (.int p4), .val (.int p5), .val (.int r_1), .val (.int r_2), .unset, .unset, .unset, .unset, .unset, .unset, .unset, .unset, .unset, .unset, .unset, .unset] []) _
  refine own_st (fun t_ k_ => XS.iloadN X2.here hx rfl (hb hby at_12) rfl k_) ?_
  show own_Go p e below T2 (mkF m 13 #[.val (.int p0), .val (.int p1), .val (.int p2), .val (.int p3), .val (.int p4), .val (.int p5), .val (.int r_1), .val (.int r_2), .unset, .unset, .unset, .unset, .unset, .unset, .unset, .unset, .unset, .unset, .unset, .unset] [(.int p2)]) _
  obtain ⟨_, _, ⟨T3, L3, k3, n3⟩, -, X3, ⟨Lc3, hQ3, l3, y3, z3⟩, st3⟩ := Jvm.LawKit.callS X2 hx (y := (⟨"com/example/faithful_courier/faithfulcourier/core/NameOfPinLaw", "allowed", "(I)C"⟩ : MethodName)) hown (mvT hZ (hw _ (List.mem_of_getElem? (i := 0) rfl))) (mvT hZ (hw _ (List.mem_of_getElem? (i := 1) rfl))) (mvT hZ (hw _ (List.mem_of_getElem? (i := 2) rfl))) (mvT hZ (hw _ (List.mem_of_getElem? (i := 3) rfl))) (by decide) (backOf (W := 0) (rmAl l Z a0 hw [] p2 h0 n0 Z0 ) hZ (hw _ (List.mem_of_getElem? (i := 3) rfl)) (hw _ (List.mem_of_getElem? (i := 2) rfl)) (by decide) (by decide)) (g := (mkF m 13 #[.val (.int p0), .val (.int p1), .val (.int p2), .val (.int p3), .val (.int p4), .val (.int p5), .val (.int r_1), .val (.int r_2), .unset, .unset, .unset, .unset, .unset, .unset, .unset, .unset, .unset, .unset, .unset, .unset] [(.int p2)])) rfl (by rw [hml]; rfl) (argsL := [(.int p2)]) (rest := []) (lenOf pd__I_C rfl) rfl (by show 2 * 0 + _ ≤ _; exact Nat.le_of_eq rfl) (hb hby at_13) (fun _ _ => ⟨rfl, eH2, (by decide : 0 + 0 ≤ _), (by decide : 0 + 0 ≤ _)⟩)
  dsimp only [Pt.U, Pt.locs, Pt.cells, Pt.slots] at X3 l3 y3 z3 st3 hQ3
  try dsimp only [Nat.reduceAdd] at y3 z3
  rw [l3, y3, z3] at X3
  obtain ⟨r_3, rfl, Nq3, eH3, q3_0⟩ := hQ3
  have N3 := Fr.app N2 Nq3
  refine own_st st3 ?_
  show own_Go p e below T3 (mkF m 16 #[.val (.int p0), .val (.int p1), .val (.int p2), .val (.int p3), .val (.int p4), .val (.int p5), .val (.int r_1), .val (.int r_2), .unset, .unset, .unset, .unset, .unset, .unset, .unset, .unset, .unset, .unset, .unset, .unset] [(.int r_3)]) _
  refine own_st (fun t_ k_ => XS.istore X3.here hx rfl (hb hby at_16) rfl (l' := #[.val (.int p0), .val (.int p1), .val (.int p2), .val (.int p3), .val (.int p4), .val (.int p5), .val (.int r_1), .val (.int r_2), .val (.int r_3), .unset, .unset, .unset, .unset, .unset, .unset, .unset, .unset, .unset, .unset, .unset]) rfl k_) ?_
  show own_Go p e below T3 (mkF m 18 #[.val (.int p0), .val (.int p1), .val (.int p2), .val (.int p3), .val (.int p4), .val (.int p5), .val (.int r_1), .val (.int r_2), .val (.int r_3), .unset, .unset, .unset, .unset, .unset, .unset, .unset, .unset, .unset, .unset, .unset] []) _
  refine own_st (fun t_ k_ => XS.iloadN X3.here hx rfl (hb hby at_18) rfl k_) ?_
  show own_Go p e below T3 (mkF m 19 #[.val (.int p0), .val (.int p1), .val (.int p2), .val (.int p3), .val (.int p4), .val (.int p5), .val (.int r_1), .val (.int r_2), .val (.int r_3), .unset, .unset, .unset, .unset, .unset, .unset, .unset, .unset, .unset, .unset, .unset] [(.int p3)]) _
  obtain ⟨_, _, ⟨T4, L4, k4, n4⟩, -, X4, ⟨Lc4, hQ4, l4, y4, z4⟩, st4⟩ := Jvm.LawKit.callS X3 hx (y := (⟨"com/example/faithful_courier/faithfulcourier/core/NameOfPinLaw", "allowed", "(I)C"⟩ : MethodName)) hown (mvT hZ (hw _ (List.mem_of_getElem? (i := 0) rfl))) (mvT hZ (hw _ (List.mem_of_getElem? (i := 1) rfl))) (mvT hZ (hw _ (List.mem_of_getElem? (i := 2) rfl))) (mvT hZ (hw _ (List.mem_of_getElem? (i := 3) rfl))) (by decide) (backOf (W := 0) (rmAl l Z a0 hw [] p3 h0 n0 Z0 ) hZ (hw _ (List.mem_of_getElem? (i := 3) rfl)) (hw _ (List.mem_of_getElem? (i := 2) rfl)) (by decide) (by decide)) (g := (mkF m 19 #[.val (.int p0), .val (.int p1), .val (.int p2), .val (.int p3), .val (.int p4), .val (.int p5), .val (.int r_1), .val (.int r_2), .val (.int r_3), .unset, .unset, .unset, .unset, .unset, .unset, .unset, .unset, .unset, .unset, .unset] [(.int p3)])) rfl (by rw [hml]; rfl) (argsL := [(.int p3)]) (rest := []) (lenOf pd__I_C rfl) rfl (by show 2 * 0 + _ ≤ _; exact Nat.le_of_eq rfl) (hb hby at_19) (fun _ _ => ⟨rfl, eH3, (by decide : 0 + 0 ≤ _), (by decide : 0 + 0 ≤ _)⟩)
  dsimp only [Pt.U, Pt.locs, Pt.cells, Pt.slots] at X4 l4 y4 z4 st4 hQ4
  try dsimp only [Nat.reduceAdd] at y4 z4
  rw [l4, y4, z4] at X4
  obtain ⟨r_4, rfl, Nq4, eH4, q4_0⟩ := hQ4
  have N4 := Fr.app N3 Nq4
  refine own_st st4 ?_
  show own_Go p e below T4 (mkF m 22 #[.val (.int p0), .val (.int p1), .val (.int p2), .val (.int p3), .val (.int p4), .val (.int p5), .val (.int r_1), .val (.int r_2), .val (.int r_3), .unset, .unset, .unset, .unset, .unset, .unset, .unset, .unset, .unset, .unset, .unset] [(.int r_4)]) _
  refine own_st (fun t_ k_ => XS.istore X4.here hx rfl (hb hby at_22) rfl (l' := #[.val (.int p0), .val (.int p1), .val (.int p2), .val (.int p3), .val (.int p4), .val (.int p5), .val (.int r_1), .val (.int r_2), .val (.int r_3), .val (.int r_4), .unset, .unset, .unset, .unset, .unset, .unset, .unset, .unset, .unset, .unset]) rfl k_) ?_
  show own_Go p e below T4 (mkF m 24 #[.val (.int p0), .val (.int p1), .val (.int p2), .val (.int p3), .val (.int p4), .val (.int p5), .val (.int r_1), .val (.int r_2), .val (.int r_3), .val (.int r_4), .unset, .unset, .unset, .unset, .unset, .unset, .unset, .unset, .unset, .unset] []) _
  refine own_st (fun t_ k_ => XS.iconst X4.here hx rfl (hb hby at_24) k_) ?_
  show own_Go p e below T4 (mkF m 25 #[.val (.int p0), .val (.int p1), .val (.int p2), .val (.int p3), .val (.int p4), .val (.int p5), .val (.int r_1), .val (.int r_2), .val (.int r_3), .val (.int r_4), .unset, .unset, .unset, .unset, .unset, .unset, .unset, .unset, .unset, .unset] [(.int (1 : Int32))]) _
  refine own_st (fun t_ k_ => XS.iload X4.here hx rfl (hb hby at_25) rfl k_) ?_
  show own_Go p e below T4 (mkF m 27 #[.val (.int p0), .val (.int p1), .val (.int p2), .val (.int p3), .val (.int p4), .val (.int p5), .val (.int r_1), .val (.int r_2), .val (.int r_3), .val (.int r_4), .unset, .unset, .unset, .unset, .unset, .unset, .unset, .unset, .unset, .unset] [(.int p4), (.int (1 : Int32))]) _
  refine own_st (fun t_ k_ => XS.iconst X4.here hx rfl (hb hby at_27) k_) ?_
  show own_Go p e below T4 (mkF m 28 #[.val (.int p0), .val (.int p1), .val (.int p2), .val (.int p3), .val (.int p4), .val (.int p5), .val (.int r_1), .val (.int r_2), .val (.int r_3), .val (.int r_4), .unset, .unset, .unset, .unset, .unset, .unset, .unset, .unset, .unset, .unset] [(.int (3 : Int32)), (.int p4), (.int (1 : Int32))]) _
  refine own_st (fun t_ k_ => XS.iand X4.here hx rfl (hb hby at_28) rfl k_) ?_
  show own_Go p e below T4 (mkF m 29 #[.val (.int p0), .val (.int p1), .val (.int p2), .val (.int p3), .val (.int p4), .val (.int p5), .val (.int r_1), .val (.int r_2), .val (.int r_3), .val (.int r_4), .unset, .unset, .unset, .unset, .unset, .unset, .unset, .unset, .unset, .unset] [(.int (p4 &&& (3 : Int32))), (.int (1 : Int32))]) _
  refine own_st (fun t_ k_ => XS.iadd X4.here hx rfl (hb hby at_29) rfl k_) ?_
  show own_Go p e below T4 (mkF m 30 #[.val (.int p0), .val (.int p1), .val (.int p2), .val (.int p3), .val (.int p4), .val (.int p5), .val (.int r_1), .val (.int r_2), .val (.int r_3), .val (.int r_4), .unset, .unset, .unset, .unset, .unset, .unset, .unset, .unset, .unset, .unset] [(.int ((1 : Int32) + (p4 &&& (3 : Int32))))]) _
  rw [hn]
  show own_Go p e below T4 (mkF m 30 #[.val (.int p0), .val (.int p1), .val (.int p2), .val (.int p3), .val (.int p4), .val (.int p5), .val (.int r_1), .val (.int r_2), .val (.int r_3), .val (.int r_4), .unset, .unset, .unset, .unset, .unset, .unset, .unset, .unset, .unset, .unset] [(.int (4 : Int32))]) _
  refine own_st (fun t_ k_ => XS.istore X4.here hx rfl (hb hby at_30) rfl (l' := #[.val (.int p0), .val (.int p1), .val (.int p2), .val (.int p3), .val (.int p4), .val (.int p5), .val (.int r_1), .val (.int r_2), .val (.int r_3), .val (.int r_4), .val (.int (4 : Int32)), .unset, .unset, .unset, .unset, .unset, .unset, .unset, .unset, .unset]) rfl k_) ?_
  show own_Go p e below T4 (mkF m 32 #[.val (.int p0), .val (.int p1), .val (.int p2), .val (.int p3), .val (.int p4), .val (.int p5), .val (.int r_1), .val (.int r_2), .val (.int r_3), .val (.int r_4), .val (.int (4 : Int32)), .unset, .unset, .unset, .unset, .unset, .unset, .unset, .unset, .unset] []) _
  refine own_st (fun t_ k_ => XS.iconst X4.here hx rfl (hb hby at_32) k_) ?_
  show own_Go p e below T4 (mkF m 33 #[.val (.int p0), .val (.int p1), .val (.int p2), .val (.int p3), .val (.int p4), .val (.int p5), .val (.int r_1), .val (.int r_2), .val (.int r_3), .val (.int r_4), .val (.int (4 : Int32)), .unset, .unset, .unset, .unset, .unset, .unset, .unset, .unset, .unset] [(.int (1 : Int32))]) _
  obtain ⟨T5, h5, k5, X5, e5, E5, A5, st5⟩ := newP X4 hx hZ (hw _ (List.mem_of_getElem? (i := 5) rfl)) eH4 (g := (mkF m 33 #[.val (.int p0), .val (.int p1), .val (.int p2), .val (.int p3), .val (.int p4), .val (.int p5), .val (.int r_1), .val (.int r_2), .val (.int r_3), .val (.int r_4), .val (.int (4 : Int32)), .unset, .unset, .unset, .unset, .unset, .unset, .unset, .unset, .unset] [(.int (1 : Int32))])) rfl (hb hby at_33) rfl (by decide) (cap := 1) (by decide) (by decide) (by decide) (by decide)
  obtain ⟨b5, g5⟩ : ∃ z, z = h0.size := ⟨_, rfl⟩
  rw [← g5] at A5 st5
  have G5 : n0 ≤ b5 := Nat.le_trans Z0 (Nat.le_of_eq g5.symm)
  have B5 : h0.size ≤ b5 := Nat.le_trans (Keep.refl h0 []).1 (Nat.le_of_eq g5.symm)
  have CH6 := hCH.ext E5
  have CR6 := CHr.trans hCR (CHr.ext E5 hCH)
  have K7 : Keep h0 h5 [] := (Keep.refl h0 []).ext E5
  have V5 : Arv Z h5 b5 k5 .char (1 : Int32) [(.int (0 : Int32))] (.int (0 : Int32)) := (Arv.new A5 (by decide)).pad (pad_rep [] (.int (0 : Int32)) 1)
  refine own_st st5 ?_
  show own_Go p e below T5 (mkF m 35 #[.val (.int p0), .val (.int p1), .val (.int p2), .val (.int p3), .val (.int p4), .val (.int p5), .val (.int r_1), .val (.int r_2), .val (.int r_3), .val (.int r_4), .val (.int (4 : Int32)), .unset, .unset, .unset, .unset, .unset, .unset, .unset, .unset, .unset] [(.ref b5)]) _
  refine own_st (fun t_ k_ => XS.dup X5.here hx rfl (hb hby at_35) rfl rfl k_) ?_
  show own_Go p e below T5 (mkF m 36 #[.val (.int p0), .val (.int p1), .val (.int p2), .val (.int p3), .val (.int p4), .val (.int p5), .val (.int r_1), .val (.int r_2), .val (.int r_3), .val (.int r_4), .val (.int (4 : Int32)), .unset, .unset, .unset, .unset, .unset, .unset, .unset, .unset, .unset] [(.ref b5), (.ref b5)]) _
  refine own_st (fun t_ k_ => XS.iconst X5.here hx rfl (hb hby at_36) k_) ?_
  show own_Go p e below T5 (mkF m 37 #[.val (.int p0), .val (.int p1), .val (.int p2), .val (.int p3), .val (.int p4), .val (.int p5), .val (.int r_1), .val (.int r_2), .val (.int r_3), .val (.int r_4), .val (.int (4 : Int32)), .unset, .unset, .unset, .unset, .unset, .unset, .unset, .unset, .unset] [(.int (0 : Int32)), (.ref b5), (.ref b5)]) _
  refine own_st (fun t_ k_ => XS.iload X5.here hx rfl (hb hby at_37) rfl k_) ?_
  show own_Go p e below T5 (mkF m 39 #[.val (.int p0), .val (.int p1), .val (.int p2), .val (.int p3), .val (.int p4), .val (.int p5), .val (.int r_1), .val (.int r_2), .val (.int r_3), .val (.int r_4), .val (.int (4 : Int32)), .unset, .unset, .unset, .unset, .unset, .unset, .unset, .unset, .unset] [(.int r_1), (.int (0 : Int32)), (.ref b5), (.ref b5)]) _
  obtain ⟨cl8, Ar8, q8, Sz8, Nn8, Hh8, Gg8⟩ := id V5
  have hin8 : ¬ ((0 : Int32) < 0 ∨ cl8.slots.size ≤ ((0 : Int32)).toNatClampNeg) := inb_of Sz8 ⟨by decide, by decide⟩
  obtain ⟨T9, h9, X9, e9, W9, st9⟩ := stC X5 hx hZ e5 Ar8 (j := (0 : Int32)) hin8 (g := (mkF m 39 #[.val (.int p0), .val (.int p1), .val (.int p2), .val (.int p3), .val (.int p4), .val (.int p5), .val (.int r_1), .val (.int r_2), .val (.int r_3), .val (.int r_4), .val (.int (4 : Int32)), .unset, .unset, .unset, .unset, .unset, .unset, .unset, .unset, .unset] [(.int r_1), (.int (0 : Int32)), (.ref b5), (.ref b5)])) rfl rfl (hb hby at_39)
  have V9 : Arv Z h9 b5 k5 .char (1 : Int32) [(.int (nar .char r_1))] (.int (0 : Int32)) := Arv.set Ar8 q8 Sz8 Nn8 Hh8 Gg8 (fits_nar_char _) W9 0 rfl (Nat.le_of_ble_eq_true rfl)
  rw [own_alnar q1_0] at V9
  have Sa10 : Safe Z own_EL s.vm h5 b5 := (Safe.arv hZ.alike V5 (by decide))
  have CH10 := CH6.wr W9 Sa10
  have CR10 := CHr.trans CR6 (CHr.wr W9 Sa10 CH6)
  have K11 : Keep h0 h9 [] := K7.wr W9 (Or.inr B5)
  have N9 := Fr.snoc X9 N4 G5
  refine own_st st9 ?_
  show own_Go p e below T9 (mkF m 40 #[.val (.int p0), .val (.int p1), .val (.int p2), .val (.int p3), .val (.int p4), .val (.int p5), .val (.int r_1), .val (.int r_2), .val (.int r_3), .val (.int r_4), .val (.int (4 : Int32)), .unset, .unset, .unset, .unset, .unset, .unset, .unset, .unset, .unset] [(.ref b5)]) _
  refine own_st (fun t_ k_ => XS.astore X9.here hx rfl (hb hby at_40) rfl rfl (l' := #[.val (.int p0), .val (.int p1), .val (.int p2), .val (.int p3), .val (.int p4), .val (.int p5), .val (.int r_1), .val (.int r_2), .val (.int r_3), .val (.int r_4), .val (.int (4 : Int32)), .val (.ref b5), .unset, .unset, .unset, .unset, .unset, .unset, .unset, .unset]) rfl k_) ?_
  show own_Go p e below T9 (mkF m 42 #[.val (.int p0), .val (.int p1), .val (.int p2), .val (.int p3), .val (.int p4), .val (.int p5), .val (.int r_1), .val (.int r_2), .val (.int r_3), .val (.int r_4), .val (.int (4 : Int32)), .val (.ref b5), .unset, .unset, .unset, .unset, .unset, .unset, .unset, .unset] []) _
  refine own_st (fun t_ k_ => XS.iconst X9.here hx rfl (hb hby at_42) k_) ?_
  show own_Go p e below T9 (mkF m 43 #[.val (.int p0), .val (.int p1), .val (.int p2), .val (.int p3), .val (.int p4), .val (.int p5), .val (.int r_1), .val (.int r_2), .val (.int r_3), .val (.int r_4), .val (.int (4 : Int32)), .val (.ref b5), .unset, .unset, .unset, .unset, .unset, .unset, .unset, .unset] [(.int (2 : Int32))]) _
  have f12 := (Nat.le_trans (Nat.le_trans Z0 E5.1) (Keep.of_wr W9).1)
  obtain ⟨T13, h13, k13, X13, e13, E13, A13, st13⟩ := newP X9 hx hZ (hw _ (List.mem_of_getElem? (i := 5) rfl)) e9 (g := (mkF m 43 #[.val (.int p0), .val (.int p1), .val (.int p2), .val (.int p3), .val (.int p4), .val (.int p5), .val (.int r_1), .val (.int r_2), .val (.int r_3), .val (.int r_4), .val (.int (4 : Int32)), .val (.ref b5), .unset, .unset, .unset, .unset, .unset, .unset, .unset, .unset] [(.int (2 : Int32))])) rfl (hb hby at_43) rfl (by decide) (cap := 2) (by decide) (by decide) (by decide) (by decide)
  obtain ⟨b13, g13⟩ : ∃ z, z = h9.size := ⟨_, rfl⟩
  rw [← g13] at A13 st13
  have G13 : n0 ≤ b13 := Nat.le_trans f12 (Nat.le_of_eq g13.symm)
  have B13 : h0.size ≤ b13 := Nat.le_trans K11.1 (Nat.le_of_eq g13.symm)
  have CH14 := CH10.ext E13
  have CR14 := CHr.trans CR10 (CHr.ext E13 CH10)
  have K15 : Keep h0 h13 [] := K11.ext E13
  have V13 : Arv Z h13 b13 k13 .char (2 : Int32) [(.int (0 : Int32)), (.int (0 : Int32))] (.int (0 : Int32)) := (Arv.new A13 (by decide)).pad (pad_rep [] (.int (0 : Int32)) 2)
  refine own_st st13 ?_
  show own_Go p e below T13 (mkF m 45 #[.val (.int p0), .val (.int p1), .val (.int p2), .val (.int p3), .val (.int p4), .val (.int p5), .val (.int r_1), .val (.int r_2), .val (.int r_3), .val (.int r_4), .val (.int (4 : Int32)), .val (.ref b5), .unset, .unset, .unset, .unset, .unset, .unset, .unset, .unset] [(.ref b13)]) _
  refine own_st (fun t_ k_ => XS.dup X13.here hx rfl (hb hby at_45) rfl rfl k_) ?_
  show own_Go p e below T13 (mkF m 46 #[.val (.int p0), .val (.int p1), .val (.int p2), .val (.int p3), .val (.int p4), .val (.int p5), .val (.int r_1), .val (.int r_2), .val (.int r_3), .val (.int r_4), .val (.int (4 : Int32)), .val (.ref b5), .unset, .unset, .unset, .unset, .unset, .unset, .unset, .unset] [(.ref b13), (.ref b13)]) _
  refine own_st (fun t_ k_ => XS.iconst X13.here hx rfl (hb hby at_46) k_) ?_
  show own_Go p e below T13 (mkF m 47 #[.val (.int p0), .val (.int p1), .val (.int p2), .val (.int p3), .val (.int p4), .val (.int p5), .val (.int r_1), .val (.int r_2), .val (.int r_3), .val (.int r_4), .val (.int (4 : Int32)), .val (.ref b5), .unset, .unset, .unset, .unset, .unset, .unset, .unset, .unset] [(.int (0 : Int32)), (.ref b13), (.ref b13)]) _
  refine own_st (fun t_ k_ => XS.iload X13.here hx rfl (hb hby at_47) rfl k_) ?_
  show own_Go p e below T13 (mkF m 49 #[.val (.int p0), .val (.int p1), .val (.int p2), .val (.int p3), .val (.int p4), .val (.int p5), .val (.int r_1), .val (.int r_2), .val (.int r_3), .val (.int r_4), .val (.int (4 : Int32)), .val (.ref b5), .unset, .unset, .unset, .unset, .unset, .unset, .unset, .unset] [(.int r_1), (.int (0 : Int32)), (.ref b13), (.ref b13)]) _
  obtain ⟨cl16, Ar16, q16, Sz16, Nn16, Hh16, Gg16⟩ := id V13
  have hin16 : ¬ ((0 : Int32) < 0 ∨ cl16.slots.size ≤ ((0 : Int32)).toNatClampNeg) := inb_of Sz16 ⟨by decide, by decide⟩
  obtain ⟨T17, h17, X17, e17, W17, st17⟩ := stC X13 hx hZ e13 Ar16 (j := (0 : Int32)) hin16 (g := (mkF m 49 #[.val (.int p0), .val (.int p1), .val (.int p2), .val (.int p3), .val (.int p4), .val (.int p5), .val (.int r_1), .val (.int r_2), .val (.int r_3), .val (.int r_4), .val (.int (4 : Int32)), .val (.ref b5), .unset, .unset, .unset, .unset, .unset, .unset, .unset, .unset] [(.int r_1), (.int (0 : Int32)), (.ref b13), (.ref b13)])) rfl rfl (hb hby at_49)
  have V17 : Arv Z h17 b13 k13 .char (2 : Int32) [(.int (nar .char r_1)), (.int (0 : Int32))] (.int (0 : Int32)) := Arv.set Ar16 q16 Sz16 Nn16 Hh16 Gg16 (fits_nar_char _) W17 0 rfl (Nat.le_of_ble_eq_true rfl)
  rw [own_alnar q1_0] at V17
  have Sa18 : Safe Z own_EL s.vm h13 b13 := (Safe.arv hZ.alike V13 (by decide))
  have CH18 := CH14.wr W17 Sa18
  have CR18 := CHr.trans CR14 (CHr.wr W17 Sa18 CH14)
  have K19 : Keep h0 h17 [] := K15.wr W17 (Or.inr B13)
  have N17 := Fr.snoc X17 N9 G13
  refine own_st st17 ?_
  show own_Go p e below T17 (mkF m 50 #[.val (.int p0), .val (.int p1), .val (.int p2), .val (.int p3), .val (.int p4), .val (.int p5), .val (.int r_1), .val (.int r_2), .val (.int r_3), .val (.int r_4), .val (.int (4 : Int32)), .val (.ref b5), .unset, .unset, .unset, .unset, .unset, .unset, .unset, .unset] [(.ref b13)]) _
  refine own_st (fun t_ k_ => XS.dup X17.here hx rfl (hb hby at_50) rfl rfl k_) ?_
  show own_Go p e below T17 (mkF m 51 #[.val (.int p0), .val (.int p1), .val (.int p2), .val (.int p3), .val (.int p4), .val (.int p5), .val (.int r_1), .val (.int r_2), .val (.int r_3), .val (.int r_4), .val (.int (4 : Int32)), .val (.ref b5), .unset, .unset, .unset, .unset, .unset, .unset, .unset, .unset] [(.ref b13), (.ref b13)]) _
  refine own_st (fun t_ k_ => XS.iconst X17.here hx rfl (hb hby at_51) k_) ?_
  show own_Go p e below T17 (mkF m 52 #[.val (.int p0), .val (.int p1), .val (.int p2), .val (.int p3), .val (.int p4), .val (.int p5), .val (.int r_1), .val (.int r_2), .val (.int r_3), .val (.int r_4), .val (.int (4 : Int32)), .val (.ref b5), .unset, .unset, .unset, .unset, .unset, .unset, .unset, .unset] [(.int (1 : Int32)), (.ref b13), (.ref b13)]) _
  refine own_st (fun t_ k_ => XS.iload X17.here hx rfl (hb hby at_52) rfl k_) ?_
  show own_Go p e below T17 (mkF m 54 #[.val (.int p0), .val (.int p1), .val (.int p2), .val (.int p3), .val (.int p4), .val (.int p5), .val (.int r_1), .val (.int r_2), .val (.int r_3), .val (.int r_4), .val (.int (4 : Int32)), .val (.ref b5), .unset, .unset, .unset, .unset, .unset, .unset, .unset, .unset] [(.int r_2), (.int (1 : Int32)), (.ref b13), (.ref b13)]) _
  obtain ⟨cl20, Ar20, q20, Sz20, Nn20, Hh20, Gg20⟩ := id V17
  have hin20 : ¬ ((1 : Int32) < 0 ∨ cl20.slots.size ≤ ((1 : Int32)).toNatClampNeg) := inb_of Sz20 ⟨by decide, by decide⟩
  obtain ⟨T21, h21, X21, e21, W21, st21⟩ := stC X17 hx hZ e17 Ar20 (j := (1 : Int32)) hin20 (g := (mkF m 54 #[.val (.int p0), .val (.int p1), .val (.int p2), .val (.int p3), .val (.int p4), .val (.int p5), .val (.int r_1), .val (.int r_2), .val (.int r_3), .val (.int r_4), .val (.int (4 : Int32)), .val (.ref b5), .unset, .unset, .unset, .unset, .unset, .unset, .unset, .unset] [(.int r_2), (.int (1 : Int32)), (.ref b13), (.ref b13)])) rfl rfl (hb hby at_54)
  have V21 : Arv Z h21 b13 k13 .char (2 : Int32) [(.int r_1), (.int (nar .char r_2))] (.int (0 : Int32)) := Arv.set Ar20 q20 Sz20 Nn20 Hh20 Gg20 (fits_nar_char _) W21 1 rfl (Nat.le_of_ble_eq_true rfl)
  rw [own_alnar q2_0] at V21
  have Sa22 : Safe Z own_EL s.vm h17 b13 := (Safe.arv hZ.alike V17 (by decide))
  have CH22 := CH18.wr W21 Sa22
  have CR22 := CHr.trans CR18 (CHr.wr W21 Sa22 CH18)
  have K23 : Keep h0 h21 [] := K19.wr W21 (Or.inr B13)
  have N21 := Fr.snoc X21 N17 G13
  refine own_st st21 ?_
  show own_Go p e below T21 (mkF m 55 #[.val (.int p0), .val (.int p1), .val (.int p2), .val (.int p3), .val (.int p4), .val (.int p5), .val (.int r_1), .val (.int r_2), .val (.int r_3), .val (.int r_4), .val (.int (4 : Int32)), .val (.ref b5), .unset, .unset, .unset, .unset, .unset, .unset, .unset, .unset] [(.ref b13)]) _
  refine own_st (fun t_ k_ => XS.astore X21.here hx rfl (hb hby at_55) rfl rfl (l' := #[.val (.int p0), .val (.int p1), .val (.int p2), .val (.int p3), .val (.int p4), .val (.int p5), .val (.int r_1), .val (.int r_2), .val (.int r_3), .val (.int r_4), .val (.int (4 : Int32)), .val (.ref b5), .val (.ref b13), .unset, .unset, .unset, .unset, .unset, .unset, .unset]) rfl k_) ?_
  show own_Go p e below T21 (mkF m 57 #[.val (.int p0), .val (.int p1), .val (.int p2), .val (.int p3), .val (.int p4), .val (.int p5), .val (.int r_1), .val (.int r_2), .val (.int r_3), .val (.int r_4), .val (.int (4 : Int32)), .val (.ref b5), .val (.ref b13), .unset, .unset, .unset, .unset, .unset, .unset, .unset] []) _
  refine own_st (fun t_ k_ => XS.iconst X21.here hx rfl (hb hby at_57) k_) ?_
  show own_Go p e below T21 (mkF m 58 #[.val (.int p0), .val (.int p1), .val (.int p2), .val (.int p3), .val (.int p4), .val (.int p5), .val (.int r_1), .val (.int r_2), .val (.int r_3), .val (.int r_4), .val (.int (4 : Int32)), .val (.ref b5), .val (.ref b13), .unset, .unset, .unset, .unset, .unset, .unset, .unset] [(.int (3 : Int32))]) _
  have f24 := (Nat.le_trans (Nat.le_trans (Nat.le_trans f12 E13.1) (Keep.of_wr W17).1) (Keep.of_wr W21).1)
  obtain ⟨T25, h25, k25, X25, e25, E25, A25, st25⟩ := newP X21 hx hZ (hw _ (List.mem_of_getElem? (i := 5) rfl)) e21 (g := (mkF m 58 #[.val (.int p0), .val (.int p1), .val (.int p2), .val (.int p3), .val (.int p4), .val (.int p5), .val (.int r_1), .val (.int r_2), .val (.int r_3), .val (.int r_4), .val (.int (4 : Int32)), .val (.ref b5), .val (.ref b13), .unset, .unset, .unset, .unset, .unset, .unset, .unset] [(.int (3 : Int32))])) rfl (hb hby at_58) rfl (by decide) (cap := 3) (by decide) (by decide) (by decide) (by decide)
  obtain ⟨b25, g25⟩ : ∃ z, z = h21.size := ⟨_, rfl⟩
  rw [← g25] at A25 st25
  have G25 : n0 ≤ b25 := Nat.le_trans f24 (Nat.le_of_eq g25.symm)
  have B25 : h0.size ≤ b25 := Nat.le_trans K23.1 (Nat.le_of_eq g25.symm)
  have CH26 := CH22.ext E25
  have CR26 := CHr.trans CR22 (CHr.ext E25 CH22)
  have K27 : Keep h0 h25 [] := K23.ext E25
  have V25 : Arv Z h25 b25 k25 .char (3 : Int32) [(.int (0 : Int32)), (.int (0 : Int32)), (.int (0 : Int32))] (.int (0 : Int32)) := (Arv.new A25 (by decide)).pad (pad_rep [] (.int (0 : Int32)) 3)
  refine own_st st25 ?_
  show own_Go p e below T25 (mkF m 60 #[.val (.int p0), .val (.int p1), .val (.int p2), .val (.int p3), .val (.int p4), .val (.int p5), .val (.int r_1), .val (.int r_2), .val (.int r_3), .val (.int r_4), .val (.int (4 : Int32)), .val (.ref b5), .val (.ref b13), .unset, .unset, .unset, .unset, .unset, .unset, .unset] [(.ref b25)]) _
  refine own_st (fun t_ k_ => XS.dup X25.here hx rfl (hb hby at_60) rfl rfl k_) ?_
  show own_Go p e below T25 (mkF m 61 #[.val (.int p0), .val (.int p1), .val (.int p2), .val (.int p3), .val (.int p4), .val (.int p5), .val (.int r_1), .val (.int r_2), .val (.int r_3), .val (.int r_4), .val (.int (4 : Int32)), .val (.ref b5), .val (.ref b13), .unset, .unset, .unset, .unset, .unset, .unset, .unset] [(.ref b25), (.ref b25)]) _
  refine own_st (fun t_ k_ => XS.iconst X25.here hx rfl (hb hby at_61) k_) ?_
  show own_Go p e below T25 (mkF m 62 #[.val (.int p0), .val (.int p1), .val (.int p2), .val (.int p3), .val (.int p4), .val (.int p5), .val (.int r_1), .val (.int r_2), .val (.int r_3), .val (.int r_4), .val (.int (4 : Int32)), .val (.ref b5), .val (.ref b13), .unset, .unset, .unset, .unset, .unset, .unset, .unset] [(.int (0 : Int32)), (.ref b25), (.ref b25)]) _
  refine own_st (fun t_ k_ => XS.iload X25.here hx rfl (hb hby at_62) rfl k_) ?_
  show own_Go p e below T25 (mkF m 64 #[.val (.int p0), .val (.int p1), .val (.int p2), .val (.int p3), .val (.int p4), .val (.int p5), .val (.int r_1), .val (.int r_2), .val (.int r_3), .val (.int r_4), .val (.int (4 : Int32)), .val (.ref b5), .val (.ref b13), .unset, .unset, .unset, .unset, .unset, .unset, .unset] [(.int r_1), (.int (0 : Int32)), (.ref b25), (.ref b25)]) _
  obtain ⟨cl28, Ar28, q28, Sz28, Nn28, Hh28, Gg28⟩ := id V25
  have hin28 : ¬ ((0 : Int32) < 0 ∨ cl28.slots.size ≤ ((0 : Int32)).toNatClampNeg) := inb_of Sz28 ⟨by decide, by decide⟩
  obtain ⟨T29, h29, X29, e29, W29, st29⟩ := stC X25 hx hZ e25 Ar28 (j := (0 : Int32)) hin28 (g := (mkF m 64 #[.val (.int p0), .val (.int p1), .val (.int p2), .val (.int p3), .val (.int p4), .val (.int p5), .val (.int r_1), .val (.int r_2), .val (.int r_3), .val (.int r_4), .val (.int (4 : Int32)), .val (.ref b5), .val (.ref b13), .unset, .unset, .unset, .unset, .unset, .unset, .unset] [(.int r_1), (.int (0 : Int32)), (.ref b25), (.ref b25)])) rfl rfl (hb hby at_64)
  have V29 : Arv Z h29 b25 k25 .char (3 : Int32) [(.int (nar .char r_1)), (.int (0 : Int32)), (.int (0 : Int32))] (.int (0 : Int32)) := Arv.set Ar28 q28 Sz28 Nn28 Hh28 Gg28 (fits_nar_char _) W29 0 rfl (Nat.le_of_ble_eq_true rfl)
  rw [own_alnar q1_0] at V29
  have Sa30 : Safe Z own_EL s.vm h25 b25 := (Safe.arv hZ.alike V25 (by decide))
  have CH30 := CH26.wr W29 Sa30
  have CR30 := CHr.trans CR26 (CHr.wr W29 Sa30 CH26)
  have K31 : Keep h0 h29 [] := K27.wr W29 (Or.inr B25)
  have N29 := Fr.snoc X29 N21 G25
  refine own_st st29 ?_
  show own_Go p e below T29 (mkF m 65 #[.val (.int p0), .val (.int p1), .val (.int p2), .val (.int p3), .val (.int p4), .val (.int p5), .val (.int r_1), .val (.int r_2), .val (.int r_3), .val (.int r_4), .val (.int (4 : Int32)), .val (.ref b5), .val (.ref b13), .unset, .unset, .unset, .unset, .unset, .unset, .unset] [(.ref b25)]) _
  refine own_st (fun t_ k_ => XS.dup X29.here hx rfl (hb hby at_65) rfl rfl k_) ?_
  show own_Go p e below T29 (mkF m 66 #[.val (.int p0), .val (.int p1), .val (.int p2), .val (.int p3), .val (.int p4), .val (.int p5), .val (.int r_1), .val (.int r_2), .val (.int r_3), .val (.int r_4), .val (.int (4 : Int32)), .val (.ref b5), .val (.ref b13), .unset, .unset, .unset, .unset, .unset, .unset, .unset] [(.ref b25), (.ref b25)]) _
  refine own_st (fun t_ k_ => XS.iconst X29.here hx rfl (hb hby at_66) k_) ?_
  show own_Go p e below T29 (mkF m 67 #[.val (.int p0), .val (.int p1), .val (.int p2), .val (.int p3), .val (.int p4), .val (.int p5), .val (.int r_1), .val (.int r_2), .val (.int r_3), .val (.int r_4), .val (.int (4 : Int32)), .val (.ref b5), .val (.ref b13), .unset, .unset, .unset, .unset, .unset, .unset, .unset] [(.int (1 : Int32)), (.ref b25), (.ref b25)]) _
  refine own_st (fun t_ k_ => XS.iload X29.here hx rfl (hb hby at_67) rfl k_) ?_
  show own_Go p e below T29 (mkF m 69 #[.val (.int p0), .val (.int p1), .val (.int p2), .val (.int p3), .val (.int p4), .val (.int p5), .val (.int r_1), .val (.int r_2), .val (.int r_3), .val (.int r_4), .val (.int (4 : Int32)), .val (.ref b5), .val (.ref b13), .unset, .unset, .unset, .unset, .unset, .unset, .unset] [(.int r_2), (.int (1 : Int32)), (.ref b25), (.ref b25)]) _
  obtain ⟨cl32, Ar32, q32, Sz32, Nn32, Hh32, Gg32⟩ := id V29
  have hin32 : ¬ ((1 : Int32) < 0 ∨ cl32.slots.size ≤ ((1 : Int32)).toNatClampNeg) := inb_of Sz32 ⟨by decide, by decide⟩
  obtain ⟨T33, h33, X33, e33, W33, st33⟩ := stC X29 hx hZ e29 Ar32 (j := (1 : Int32)) hin32 (g := (mkF m 69 #[.val (.int p0), .val (.int p1), .val (.int p2), .val (.int p3), .val (.int p4), .val (.int p5), .val (.int r_1), .val (.int r_2), .val (.int r_3), .val (.int r_4), .val (.int (4 : Int32)), .val (.ref b5), .val (.ref b13), .unset, .unset, .unset, .unset, .unset, .unset, .unset] [(.int r_2), (.int (1 : Int32)), (.ref b25), (.ref b25)])) rfl rfl (hb hby at_69)
  have V33 : Arv Z h33 b25 k25 .char (3 : Int32) [(.int r_1), (.int (nar .char r_2)), (.int (0 : Int32))] (.int (0 : Int32)) := Arv.set Ar32 q32 Sz32 Nn32 Hh32 Gg32 (fits_nar_char _) W33 1 rfl (Nat.le_of_ble_eq_true rfl)
  rw [own_alnar q2_0] at V33
  have Sa34 : Safe Z own_EL s.vm h29 b25 := (Safe.arv hZ.alike V29 (by decide))
  have CH34 := CH30.wr W33 Sa34
  have CR34 := CHr.trans CR30 (CHr.wr W33 Sa34 CH30)
  have K35 : Keep h0 h33 [] := K31.wr W33 (Or.inr B25)
  have N33 := Fr.snoc X33 N29 G25
  refine own_st st33 ?_
  show own_Go p e below T33 (mkF m 70 #[.val (.int p0), .val (.int p1), .val (.int p2), .val (.int p3), .val (.int p4), .val (.int p5), .val (.int r_1), .val (.int r_2), .val (.int r_3), .val (.int r_4), .val (.int (4 : Int32)), .val (.ref b5), .val (.ref b13), .unset, .unset, .unset, .unset, .unset, .unset, .unset] [(.ref b25)]) _
  refine own_st (fun t_ k_ => XS.dup X33.here hx rfl (hb hby at_70) rfl rfl k_) ?_
  show own_Go p e below T33 (mkF m 71 #[.val (.int p0), .val (.int p1), .val (.int p2), .val (.int p3), .val (.int p4), .val (.int p5), .val (.int r_1), .val (.int r_2), .val (.int r_3), .val (.int r_4), .val (.int (4 : Int32)), .val (.ref b5), .val (.ref b13), .unset, .unset, .unset, .unset, .unset, .unset, .unset] [(.ref b25), (.ref b25)]) _
  refine own_st (fun t_ k_ => XS.iconst X33.here hx rfl (hb hby at_71) k_) ?_
  show own_Go p e below T33 (mkF m 72 #[.val (.int p0), .val (.int p1), .val (.int p2), .val (.int p3), .val (.int p4), .val (.int p5), .val (.int r_1), .val (.int r_2), .val (.int r_3), .val (.int r_4), .val (.int (4 : Int32)), .val (.ref b5), .val (.ref b13), .unset, .unset, .unset, .unset, .unset, .unset, .unset] [(.int (2 : Int32)), (.ref b25), (.ref b25)]) _
  refine own_st (fun t_ k_ => XS.iload X33.here hx rfl (hb hby at_72) rfl k_) ?_
  show own_Go p e below T33 (mkF m 74 #[.val (.int p0), .val (.int p1), .val (.int p2), .val (.int p3), .val (.int p4), .val (.int p5), .val (.int r_1), .val (.int r_2), .val (.int r_3), .val (.int r_4), .val (.int (4 : Int32)), .val (.ref b5), .val (.ref b13), .unset, .unset, .unset, .unset, .unset, .unset, .unset] [(.int r_3), (.int (2 : Int32)), (.ref b25), (.ref b25)]) _
  obtain ⟨cl36, Ar36, q36, Sz36, Nn36, Hh36, Gg36⟩ := id V33
  have hin36 : ¬ ((2 : Int32) < 0 ∨ cl36.slots.size ≤ ((2 : Int32)).toNatClampNeg) := inb_of Sz36 ⟨by decide, by decide⟩
  obtain ⟨T37, h37, X37, e37, W37, st37⟩ := stC X33 hx hZ e33 Ar36 (j := (2 : Int32)) hin36 (g := (mkF m 74 #[.val (.int p0), .val (.int p1), .val (.int p2), .val (.int p3), .val (.int p4), .val (.int p5), .val (.int r_1), .val (.int r_2), .val (.int r_3), .val (.int r_4), .val (.int (4 : Int32)), .val (.ref b5), .val (.ref b13), .unset, .unset, .unset, .unset, .unset, .unset, .unset] [(.int r_3), (.int (2 : Int32)), (.ref b25), (.ref b25)])) rfl rfl (hb hby at_74)
  have V37 : Arv Z h37 b25 k25 .char (3 : Int32) [(.int r_1), (.int r_2), (.int (nar .char r_3))] (.int (0 : Int32)) := Arv.set Ar36 q36 Sz36 Nn36 Hh36 Gg36 (fits_nar_char _) W37 2 rfl (Nat.le_of_ble_eq_true rfl)
  rw [own_alnar q3_0] at V37
  have Sa38 : Safe Z own_EL s.vm h33 b25 := (Safe.arv hZ.alike V33 (by decide))
  have CH38 := CH34.wr W37 Sa38
  have CR38 := CHr.trans CR34 (CHr.wr W37 Sa38 CH34)
  have K39 : Keep h0 h37 [] := K35.wr W37 (Or.inr B25)
  have N37 := Fr.snoc X37 N33 G25
  refine own_st st37 ?_
  show own_Go p e below T37 (mkF m 75 #[.val (.int p0), .val (.int p1), .val (.int p2), .val (.int p3), .val (.int p4), .val (.int p5), .val (.int r_1), .val (.int r_2), .val (.int r_3), .val (.int r_4), .val (.int (4 : Int32)), .val (.ref b5), .val (.ref b13), .unset, .unset, .unset, .unset, .unset, .unset, .unset] [(.ref b25)]) _
  refine own_st (fun t_ k_ => XS.astore X37.here hx rfl (hb hby at_75) rfl rfl (l' := #[.val (.int p0), .val (.int p1), .val (.int p2), .val (.int p3), .val (.int p4), .val (.int p5), .val (.int r_1), .val (.int r_2), .val (.int r_3), .val (.int r_4), .val (.int (4 : Int32)), .val (.ref b5), .val (.ref b13), .val (.ref b25), .unset, .unset, .unset, .unset, .unset, .unset]) rfl k_) ?_
  show own_Go p e below T37 (mkF m 77 #[.val (.int p0), .val (.int p1), .val (.int p2), .val (.int p3), .val (.int p4), .val (.int p5), .val (.int r_1), .val (.int r_2), .val (.int r_3), .val (.int r_4), .val (.int (4 : Int32)), .val (.ref b5), .val (.ref b13), .val (.ref b25), .unset, .unset, .unset, .unset, .unset, .unset] []) _
  refine own_st (fun t_ k_ => XS.iconst X37.here hx rfl (hb hby at_77) k_) ?_
  show own_Go p e below T37 (mkF m 78 #[.val (.int p0), .val (.int p1), .val (.int p2), .val (.int p3), .val (.int p4), .val (.int p5), .val (.int r_1), .val (.int r_2), .val (.int r_3), .val (.int r_4), .val (.int (4 : Int32)), .val (.ref b5), .val (.ref b13), .val (.ref b25), .unset, .unset, .unset, .unset, .unset, .unset] [(.int (4 : Int32))]) _
  have f40 := (Nat.le_trans (Nat.le_trans (Nat.le_trans (Nat.le_trans f24 E25.1) (Keep.of_wr W29).1) (Keep.of_wr W33).1) (Keep.of_wr W37).1)
  obtain ⟨T41, h41, k41, X41, e41, E41, A41, st41⟩ := newP X37 hx hZ (hw _ (List.mem_of_getElem? (i := 5) rfl)) e37 (g := (mkF m 78 #[.val (.int p0), .val (.int p1), .val (.int p2), .val (.int p3), .val (.int p4), .val (.int p5), .val (.int r_1), .val (.int r_2), .val (.int r_3), .val (.int r_4), .val (.int (4 : Int32)), .val (.ref b5), .val (.ref b13), .val (.ref b25), .unset, .unset, .unset, .unset, .unset, .unset] [(.int (4 : Int32))])) rfl (hb hby at_78) rfl (by decide) (cap := 4) (by decide) (by decide) (by decide) (by decide)
  obtain ⟨b41, g41⟩ : ∃ z, z = h37.size := ⟨_, rfl⟩
  rw [← g41] at A41 st41
  have G41 : n0 ≤ b41 := Nat.le_trans f40 (Nat.le_of_eq g41.symm)
  have B41 : h0.size ≤ b41 := Nat.le_trans K39.1 (Nat.le_of_eq g41.symm)
  have CH42 := CH38.ext E41
  have CR42 := CHr.trans CR38 (CHr.ext E41 CH38)
  have K43 : Keep h0 h41 [] := K39.ext E41
  have V41 : Arv Z h41 b41 k41 .char (4 : Int32) [(.int (0 : Int32)), (.int (0 : Int32)), (.int (0 : Int32)), (.int (0 : Int32))] (.int (0 : Int32)) := (Arv.new A41 (by decide)).pad (pad_rep [] (.int (0 : Int32)) 4)
  refine own_st st41 ?_
  show own_Go p e below T41 (mkF m 80 #[.val (.int p0), .val (.int p1), .val (.int p2), .val (.int p3), .val (.int p4), .val (.int p5), .val (.int r_1), .val (.int r_2), .val (.int r_3), .val (.int r_4), .val (.int (4 : Int32)), .val (.ref b5), .val (.ref b13), .val (.ref b25), .unset, .unset, .unset, .unset, .unset, .unset] [(.ref b41)]) _
  refine own_st (fun t_ k_ => XS.dup X41.here hx rfl (hb hby at_80) rfl rfl k_) ?_
  show own_Go p e below T41 (mkF m 81 #[.val (.int p0), .val (.int p1), .val (.int p2), .val (.int p3), .val (.int p4), .val (.int p5), .val (.int r_1), .val (.int r_2), .val (.int r_3), .val (.int r_4), .val (.int (4 : Int32)), .val (.ref b5), .val (.ref b13), .val (.ref b25), .unset, .unset, .unset, .unset, .unset, .unset] [(.ref b41), (.ref b41)]) _
  refine own_st (fun t_ k_ => XS.iconst X41.here hx rfl (hb hby at_81) k_) ?_
  show own_Go p e below T41 (mkF m 82 #[.val (.int p0), .val (.int p1), .val (.int p2), .val (.int p3), .val (.int p4), .val (.int p5), .val (.int r_1), .val (.int r_2), .val (.int r_3), .val (.int r_4), .val (.int (4 : Int32)), .val (.ref b5), .val (.ref b13), .val (.ref b25), .unset, .unset, .unset, .unset, .unset, .unset] [(.int (0 : Int32)), (.ref b41), (.ref b41)]) _
  refine own_st (fun t_ k_ => XS.iload X41.here hx rfl (hb hby at_82) rfl k_) ?_
  show own_Go p e below T41 (mkF m 84 #[.val (.int p0), .val (.int p1), .val (.int p2), .val (.int p3), .val (.int p4), .val (.int p5), .val (.int r_1), .val (.int r_2), .val (.int r_3), .val (.int r_4), .val (.int (4 : Int32)), .val (.ref b5), .val (.ref b13), .val (.ref b25), .unset, .unset, .unset, .unset, .unset, .unset] [(.int r_1), (.int (0 : Int32)), (.ref b41), (.ref b41)]) _
  obtain ⟨cl44, Ar44, q44, Sz44, Nn44, Hh44, Gg44⟩ := id V41
  have hin44 : ¬ ((0 : Int32) < 0 ∨ cl44.slots.size ≤ ((0 : Int32)).toNatClampNeg) := inb_of Sz44 ⟨by decide, by decide⟩
  obtain ⟨T45, h45, X45, e45, W45, st45⟩ := stC X41 hx hZ e41 Ar44 (j := (0 : Int32)) hin44 (g := (mkF m 84 #[.val (.int p0), .val (.int p1), .val (.int p2), .val (.int p3), .val (.int p4), .val (.int p5), .val (.int r_1), .val (.int r_2), .val (.int r_3), .val (.int r_4), .val (.int (4 : Int32)), .val (.ref b5), .val (.ref b13), .val (.ref b25), .unset, .unset, .unset, .unset, .unset, .unset] [(.int r_1), (.int (0 : Int32)), (.ref b41), (.ref b41)])) rfl rfl (hb hby at_84)
  have V45 : Arv Z h45 b41 k41 .char (4 : Int32) [(.int (nar .char r_1)), (.int (0 : Int32)), (.int (0 : Int32)), (.int (0 : Int32))] (.int (0 : Int32)) := Arv.set Ar44 q44 Sz44 Nn44 Hh44 Gg44 (fits_nar_char _) W45 0 rfl (Nat.le_of_ble_eq_true rfl)
  rw [own_alnar q1_0] at V45
  have Sa46 : Safe Z own_EL s.vm h41 b41 := (Safe.arv hZ.alike V41 (by decide))
  have CH46 := CH42.wr W45 Sa46
  have CR46 := CHr.trans CR42 (CHr.wr W45 Sa46 CH42)
  have K47 : Keep h0 h45 [] := K43.wr W45 (Or.inr B41)
  have N45 := Fr.snoc X45 N37 G41
  refine own_st st45 ?_
  show own_Go p e below T45 (mkF m 85 #[.val (.int p0), .val (.int p1), .val (.int p2), .val (.int p3), .val (.int p4), .val (.int p5), .val (.int r_1), .val (.int r_2), .val (.int r_3), .val (.int r_4), .val (.int (4 : Int32)), .val (.ref b5), .val (.ref b13), .val (.ref b25), .unset, .unset, .unset, .unset, .unset, .unset] [(.ref b41)]) _
  refine own_st (fun t_ k_ => XS.dup X45.here hx rfl (hb hby at_85) rfl rfl k_) ?_
  show own_Go p e below T45 (mkF m 86 #[.val (.int p0), .val (.int p1), .val (.int p2), .val (.int p3), .val (.int p4), .val (.int p5), .val (.int r_1), .val (.int r_2), .val (.int r_3), .val (.int r_4), .val (.int (4 : Int32)), .val (.ref b5), .val (.ref b13), .val (.ref b25), .unset, .unset, .unset, .unset, .unset, .unset] [(.ref b41), (.ref b41)]) _
  refine own_st (fun t_ k_ => XS.iconst X45.here hx rfl (hb hby at_86) k_) ?_
  show own_Go p e below T45 (mkF m 87 #[.val (.int p0), .val (.int p1), .val (.int p2), .val (.int p3), .val (.int p4), .val (.int p5), .val (.int r_1), .val (.int r_2), .val (.int r_3), .val (.int r_4), .val (.int (4 : Int32)), .val (.ref b5), .val (.ref b13), .val (.ref b25), .unset, .unset, .unset, .unset, .unset, .unset] [(.int (1 : Int32)), (.ref b41), (.ref b41)]) _
  refine own_st (fun t_ k_ => XS.iload X45.here hx rfl (hb hby at_87) rfl k_) ?_
  show own_Go p e below T45 (mkF m 89 #[.val (.int p0), .val (.int p1), .val (.int p2), .val (.int p3), .val (.int p4), .val (.int p5), .val (.int r_1), .val (.int r_2), .val (.int r_3), .val (.int r_4), .val (.int (4 : Int32)), .val (.ref b5), .val (.ref b13), .val (.ref b25), .unset, .unset, .unset, .unset, .unset, .unset] [(.int r_2), (.int (1 : Int32)), (.ref b41), (.ref b41)]) _
  obtain ⟨cl48, Ar48, q48, Sz48, Nn48, Hh48, Gg48⟩ := id V45
  have hin48 : ¬ ((1 : Int32) < 0 ∨ cl48.slots.size ≤ ((1 : Int32)).toNatClampNeg) := inb_of Sz48 ⟨by decide, by decide⟩
  obtain ⟨T49, h49, X49, e49, W49, st49⟩ := stC X45 hx hZ e45 Ar48 (j := (1 : Int32)) hin48 (g := (mkF m 89 #[.val (.int p0), .val (.int p1), .val (.int p2), .val (.int p3), .val (.int p4), .val (.int p5), .val (.int r_1), .val (.int r_2), .val (.int r_3), .val (.int r_4), .val (.int (4 : Int32)), .val (.ref b5), .val (.ref b13), .val (.ref b25), .unset, .unset, .unset, .unset, .unset, .unset] [(.int r_2), (.int (1 : Int32)), (.ref b41), (.ref b41)])) rfl rfl (hb hby at_89)
  have V49 : Arv Z h49 b41 k41 .char (4 : Int32) [(.int r_1), (.int (nar .char r_2)), (.int (0 : Int32)), (.int (0 : Int32))] (.int (0 : Int32)) := Arv.set Ar48 q48 Sz48 Nn48 Hh48 Gg48 (fits_nar_char _) W49 1 rfl (Nat.le_of_ble_eq_true rfl)
  rw [own_alnar q2_0] at V49
  have Sa50 : Safe Z own_EL s.vm h45 b41 := (Safe.arv hZ.alike V45 (by decide))
  have CH50 := CH46.wr W49 Sa50
  have CR50 := CHr.trans CR46 (CHr.wr W49 Sa50 CH46)
  have K51 : Keep h0 h49 [] := K47.wr W49 (Or.inr B41)
  have N49 := Fr.snoc X49 N45 G41
  refine own_st st49 ?_
  show own_Go p e below T49 (mkF m 90 #[.val (.int p0), .val (.int p1), .val (.int p2), .val (.int p3), .val (.int p4), .val (.int p5), .val (.int r_1), .val (.int r_2), .val (.int r_3), .val (.int r_4), .val (.int (4 : Int32)), .val (.ref b5), .val (.ref b13), .val (.ref b25), .unset, .unset, .unset, .unset, .unset, .unset] [(.ref b41)]) _
  refine own_st (fun t_ k_ => XS.dup X49.here hx rfl (hb hby at_90) rfl rfl k_) ?_
  show own_Go p e below T49 (mkF m 91 #[.val (.int p0), .val (.int p1), .val (.int p2), .val (.int p3), .val (.int p4), .val (.int p5), .val (.int r_1), .val (.int r_2), .val (.int r_3), .val (.int r_4), .val (.int (4 : Int32)), .val (.ref b5), .val (.ref b13), .val (.ref b25), .unset, .unset, .unset, .unset, .unset, .unset] [(.ref b41), (.ref b41)]) _
  refine own_st (fun t_ k_ => XS.iconst X49.here hx rfl (hb hby at_91) k_) ?_
  show own_Go p e below T49 (mkF m 92 #[.val (.int p0), .val (.int p1), .val (.int p2), .val (.int p3), .val (.int p4), .val (.int p5), .val (.int r_1), .val (.int r_2), .val (.int r_3), .val (.int r_4), .val (.int (4 : Int32)), .val (.ref b5), .val (.ref b13), .val (.ref b25), .unset, .unset, .unset, .unset, .unset, .unset] [(.int (2 : Int32)), (.ref b41), (.ref b41)]) _
  refine own_st (fun t_ k_ => XS.iload X49.here hx rfl (hb hby at_92) rfl k_) ?_
  show own_Go p e below T49 (mkF m 94 #[.val (.int p0), .val (.int p1), .val (.int p2), .val (.int p3), .val (.int p4), .val (.int p5), .val (.int r_1), .val (.int r_2), .val (.int r_3), .val (.int r_4), .val (.int (4 : Int32)), .val (.ref b5), .val (.ref b13), .val (.ref b25), .unset, .unset, .unset, .unset, .unset, .unset] [(.int r_3), (.int (2 : Int32)), (.ref b41), (.ref b41)]) _
  obtain ⟨cl52, Ar52, q52, Sz52, Nn52, Hh52, Gg52⟩ := id V49
  have hin52 : ¬ ((2 : Int32) < 0 ∨ cl52.slots.size ≤ ((2 : Int32)).toNatClampNeg) := inb_of Sz52 ⟨by decide, by decide⟩
  obtain ⟨T53, h53, X53, e53, W53, st53⟩ := stC X49 hx hZ e49 Ar52 (j := (2 : Int32)) hin52 (g := (mkF m 94 #[.val (.int p0), .val (.int p1), .val (.int p2), .val (.int p3), .val (.int p4), .val (.int p5), .val (.int r_1), .val (.int r_2), .val (.int r_3), .val (.int r_4), .val (.int (4 : Int32)), .val (.ref b5), .val (.ref b13), .val (.ref b25), .unset, .unset, .unset, .unset, .unset, .unset] [(.int r_3), (.int (2 : Int32)), (.ref b41), (.ref b41)])) rfl rfl (hb hby at_94)
  have V53 : Arv Z h53 b41 k41 .char (4 : Int32) [(.int r_1), (.int r_2), (.int (nar .char r_3)), (.int (0 : Int32))] (.int (0 : Int32)) := Arv.set Ar52 q52 Sz52 Nn52 Hh52 Gg52 (fits_nar_char _) W53 2 rfl (Nat.le_of_ble_eq_true rfl)
  rw [own_alnar q3_0] at V53
  have Sa54 : Safe Z own_EL s.vm h49 b41 := (Safe.arv hZ.alike V49 (by decide))
  have CH54 := CH50.wr W53 Sa54
  have CR54 := CHr.trans CR50 (CHr.wr W53 Sa54 CH50)
  have K55 : Keep h0 h53 [] := K51.wr W53 (Or.inr B41)
  have N53 := Fr.snoc X53 N49 G41
  refine own_st st53 ?_
  show own_Go p e below T53 (mkF m 95 #[.val (.int p0), .val (.int p1), .val (.int p2), .val (.int p3), .val (.int p4), .val (.int p5), .val (.int r_1), .val (.int r_2), .val (.int r_3), .val (.int r_4), .val (.int (4 : Int32)), .val (.ref b5), .val (.ref b13), .val (.ref b25), .unset, .unset, .unset, .unset, .unset, .unset] [(.ref b41)]) _
  refine own_st (fun t_ k_ => XS.dup X53.here hx rfl (hb hby at_95) rfl rfl k_) ?_
  show own_Go p e below T53 (mkF m 96 #[.val (.int p0), .val (.int p1), .val (.int p2), .val (.int p3), .val (.int p4), .val (.int p5), .val (.int r_1), .val (.int r_2), .val (.int r_3), .val (.int r_4), .val (.int (4 : Int32)), .val (.ref b5), .val (.ref b13), .val (.ref b25), .unset, .unset, .unset, .unset, .unset, .unset] [(.ref b41), (.ref b41)]) _
  refine own_st (fun t_ k_ => XS.iconst X53.here hx rfl (hb hby at_96) k_) ?_
  show own_Go p e below T53 (mkF m 97 #[.val (.int p0), .val (.int p1), .val (.int p2), .val (.int p3), .val (.int p4), .val (.int p5), .val (.int r_1), .val (.int r_2), .val (.int r_3), .val (.int r_4), .val (.int (4 : Int32)), .val (.ref b5), .val (.ref b13), .val (.ref b25), .unset, .unset, .unset, .unset, .unset, .unset] [(.int (3 : Int32)), (.ref b41), (.ref b41)]) _
  refine own_st (fun t_ k_ => XS.iload X53.here hx rfl (hb hby at_97) rfl k_) ?_
  show own_Go p e below T53 (mkF m 99 #[.val (.int p0), .val (.int p1), .val (.int p2), .val (.int p3), .val (.int p4), .val (.int p5), .val (.int r_1), .val (.int r_2), .val (.int r_3), .val (.int r_4), .val (.int (4 : Int32)), .val (.ref b5), .val (.ref b13), .val (.ref b25), .unset, .unset, .unset, .unset, .unset, .unset] [(.int r_4), (.int (3 : Int32)), (.ref b41), (.ref b41)]) _
  obtain ⟨cl56, Ar56, q56, Sz56, Nn56, Hh56, Gg56⟩ := id V53
  have hin56 : ¬ ((3 : Int32) < 0 ∨ cl56.slots.size ≤ ((3 : Int32)).toNatClampNeg) := inb_of Sz56 ⟨by decide, by decide⟩
  obtain ⟨T57, h57, X57, e57, W57, st57⟩ := stC X53 hx hZ e53 Ar56 (j := (3 : Int32)) hin56 (g := (mkF m 99 #[.val (.int p0), .val (.int p1), .val (.int p2), .val (.int p3), .val (.int p4), .val (.int p5), .val (.int r_1), .val (.int r_2), .val (.int r_3), .val (.int r_4), .val (.int (4 : Int32)), .val (.ref b5), .val (.ref b13), .val (.ref b25), .unset, .unset, .unset, .unset, .unset, .unset] [(.int r_4), (.int (3 : Int32)), (.ref b41), (.ref b41)])) rfl rfl (hb hby at_99)
  have V57 : Arv Z h57 b41 k41 .char (4 : Int32) [(.int r_1), (.int r_2), (.int r_3), (.int (nar .char r_4))] (.int (0 : Int32)) := Arv.set Ar56 q56 Sz56 Nn56 Hh56 Gg56 (fits_nar_char _) W57 3 rfl (Nat.le_of_ble_eq_true rfl)
  rw [own_alnar q4_0] at V57
  have Sa58 : Safe Z own_EL s.vm h53 b41 := (Safe.arv hZ.alike V53 (by decide))
  have CH58 := CH54.wr W57 Sa58
  have CR58 := CHr.trans CR54 (CHr.wr W57 Sa58 CH54)
  have K59 : Keep h0 h57 [] := K55.wr W57 (Or.inr B41)
  have N57 := Fr.snoc X57 N53 G41
  refine own_st st57 ?_
  show own_Go p e below T57 (mkF m 100 #[.val (.int p0), .val (.int p1), .val (.int p2), .val (.int p3), .val (.int p4), .val (.int p5), .val (.int r_1), .val (.int r_2), .val (.int r_3), .val (.int r_4), .val (.int (4 : Int32)), .val (.ref b5), .val (.ref b13), .val (.ref b25), .unset, .unset, .unset, .unset, .unset, .unset] [(.ref b41)]) _
  refine own_st (fun t_ k_ => XS.astore X57.here hx rfl (hb hby at_100) rfl rfl (l' := #[.val (.int p0), .val (.int p1), .val (.int p2), .val (.int p3), .val (.int p4), .val (.int p5), .val (.int r_1), .val (.int r_2), .val (.int r_3), .val (.int r_4), .val (.int (4 : Int32)), .val (.ref b5), .val (.ref b13), .val (.ref b25), .val (.ref b41), .unset, .unset, .unset, .unset, .unset]) rfl k_) ?_
  show own_Go p e below T57 (mkF m 102 #[.val (.int p0), .val (.int p1), .val (.int p2), .val (.int p3), .val (.int p4), .val (.int p5), .val (.int r_1), .val (.int r_2), .val (.int r_3), .val (.int r_4), .val (.int (4 : Int32)), .val (.ref b5), .val (.ref b13), .val (.ref b25), .val (.ref b41), .unset, .unset, .unset, .unset, .unset] []) _
  refine own_st (fun t_ k_ => XS.iload X57.here hx rfl (hb hby at_102) rfl k_) ?_
  show own_Go p e below T57 (mkF m 104 #[.val (.int p0), .val (.int p1), .val (.int p2), .val (.int p3), .val (.int p4), .val (.int p5), .val (.int r_1), .val (.int r_2), .val (.int r_3), .val (.int r_4), .val (.int (4 : Int32)), .val (.ref b5), .val (.ref b13), .val (.ref b25), .val (.ref b41), .unset, .unset, .unset, .unset, .unset] [(.int (4 : Int32))]) _
  refine own_st (fun t_ k_ => XS.iconst X57.here hx rfl (hb hby at_104) k_) ?_
  show own_Go p e below T57 (mkF m 105 #[.val (.int p0), .val (.int p1), .val (.int p2), .val (.int p3), .val (.int p4), .val (.int p5), .val (.int r_1), .val (.int r_2), .val (.int r_3), .val (.int r_4), .val (.int (4 : Int32)), .val (.ref b5), .val (.ref b13), .val (.ref b25), .val (.ref b41), .unset, .unset, .unset, .unset, .unset] [(.int (1 : Int32)), (.int (4 : Int32))]) _
  refine own_st (fun t_ k_ => XS.icmpYes X57.here hx rfl (pc0 := 105) (pc' := 113) rfl (hb hby at_105) rfl (by decide) (by decide) (by decide) k_) ?_
  show own_Go p e below T57 (mkF m 113 #[.val (.int p0), .val (.int p1), .val (.int p2), .val (.int p3), .val (.int p4), .val (.int p5), .val (.int r_1), .val (.int r_2), .val (.int r_3), .val (.int r_4), .val (.int (4 : Int32)), .val (.ref b5), .val (.ref b13), .val (.ref b25), .val (.ref b41), .unset, .unset, .unset, .unset, .unset] []) _
  refine own_st (fun t_ k_ => XS.iload X57.here hx rfl (hb hby at_113) rfl k_) ?_
  show own_Go p e below T57 (mkF m 115 #[.val (.int p0), .val (.int p1), .val (.int p2), .val (.int p3), .val (.int p4), .val (.int p5), .val (.int r_1), .val (.int r_2), .val (.int r_3), .val (.int r_4), .val (.int (4 : Int32)), .val (.ref b5), .val (.ref b13), .val (.ref b25), .val (.ref b41), .unset, .unset, .unset, .unset, .unset] [(.int (4 : Int32))]) _
  refine own_st (fun t_ k_ => XS.iconst X57.here hx rfl (hb hby at_115) k_) ?_
  show own_Go p e below T57 (mkF m 116 #[.val (.int p0), .val (.int p1), .val (.int p2), .val (.int p3), .val (.int p4), .val (.int p5), .val (.int r_1), .val (.int r_2), .val (.int r_3), .val (.int r_4), .val (.int (4 : Int32)), .val (.ref b5), .val (.ref b13), .val (.ref b25), .val (.ref b41), .unset, .unset, .unset, .unset, .unset] [(.int (2 : Int32)), (.int (4 : Int32))]) _
  refine own_st (fun t_ k_ => XS.icmpYes X57.here hx rfl (pc0 := 116) (pc' := 124) rfl (hb hby at_116) rfl (by decide) (by decide) (by decide) k_) ?_
  show own_Go p e below T57 (mkF m 124 #[.val (.int p0), .val (.int p1), .val (.int p2), .val (.int p3), .val (.int p4), .val (.int p5), .val (.int r_1), .val (.int r_2), .val (.int r_3), .val (.int r_4), .val (.int (4 : Int32)), .val (.ref b5), .val (.ref b13), .val (.ref b25), .val (.ref b41), .unset, .unset, .unset, .unset, .unset] []) _
  refine own_st (fun t_ k_ => XS.iload X57.here hx rfl (hb hby at_124) rfl k_) ?_
  show own_Go p e below T57 (mkF m 126 #[.val (.int p0), .val (.int p1), .val (.int p2), .val (.int p3), .val (.int p4), .val (.int p5), .val (.int r_1), .val (.int r_2), .val (.int r_3), .val (.int r_4), .val (.int (4 : Int32)), .val (.ref b5), .val (.ref b13), .val (.ref b25), .val (.ref b41), .unset, .unset, .unset, .unset, .unset] [(.int (4 : Int32))]) _
  refine own_st (fun t_ k_ => XS.iconst X57.here hx rfl (hb hby at_126) k_) ?_
  show own_Go p e below T57 (mkF m 127 #[.val (.int p0), .val (.int p1), .val (.int p2), .val (.int p3), .val (.int p4), .val (.int p5), .val (.int r_1), .val (.int r_2), .val (.int r_3), .val (.int r_4), .val (.int (4 : Int32)), .val (.ref b5), .val (.ref b13), .val (.ref b25), .val (.ref b41), .unset, .unset, .unset, .unset, .unset] [(.int (3 : Int32)), (.int (4 : Int32))]) _
  refine own_st (fun t_ k_ => XS.icmpYes X57.here hx rfl (pc0 := 127) (pc' := 135) rfl (hb hby at_127) rfl (by decide) (by decide) (by decide) k_) ?_
  show own_Go p e below T57 (mkF m 135 #[.val (.int p0), .val (.int p1), .val (.int p2), .val (.int p3), .val (.int p4), .val (.int p5), .val (.int r_1), .val (.int r_2), .val (.int r_3), .val (.int r_4), .val (.int (4 : Int32)), .val (.ref b5), .val (.ref b13), .val (.ref b25), .val (.ref b41), .unset, .unset, .unset, .unset, .unset] []) _
  refine own_st (fun t_ k_ => XS.aload X57.here hx rfl (hb hby at_135) rfl rfl k_) ?_
  show own_Go p e below T57 (mkF m 137 #[.val (.int p0), .val (.int p1), .val (.int p2), .val (.int p3), .val (.int p4), .val (.int p5), .val (.int r_1), .val (.int r_2), .val (.int r_3), .val (.int r_4), .val (.int (4 : Int32)), .val (.ref b5), .val (.ref b13), .val (.ref b25), .val (.ref b41), .unset, .unset, .unset, .unset, .unset] [(.ref b41)]) _
  refine own_st (fun t_ k_ => XS.astore X57.here hx rfl (hb hby at_137) rfl rfl (l' := #[.val (.int p0), .val (.int p1), .val (.int p2), .val (.int p3), .val (.int p4), .val (.int p5), .val (.int r_1), .val (.int r_2), .val (.int r_3), .val (.int r_4), .val (.int (4 : Int32)), .val (.ref b5), .val (.ref b13), .val (.ref b25), .val (.ref b41), .val (.ref b41), .unset, .unset, .unset, .unset]) rfl k_) ?_
  show own_Go p e below T57 (mkF m 139 #[.val (.int p0), .val (.int p1), .val (.int p2), .val (.int p3), .val (.int p4), .val (.int p5), .val (.int r_1), .val (.int r_2), .val (.int r_3), .val (.int r_4), .val (.int (4 : Int32)), .val (.ref b5), .val (.ref b13), .val (.ref b25), .val (.ref b41), .val (.ref b41), .unset, .unset, .unset, .unset] []) _
  have f60 := (Nat.le_trans (Nat.le_trans (Nat.le_trans (Nat.le_trans (Nat.le_trans f40 E41.1) (Keep.of_wr W45).1) (Keep.of_wr W49).1) (Keep.of_wr W53).1) (Keep.of_wr W57).1)
  obtain ⟨T61, h61, X61, e61, E61, A61, D61, -, st61⟩ := newO X57 hx hZ hown (hw _ (List.mem_of_getElem? (i := 6) rfl)) (hw _ (List.mem_of_getElem? (i := 7) rfl)) (hw _ (List.mem_of_getElem? (i := 8) rfl)) e57 (g := (mkF m 139 #[.val (.int p0), .val (.int p1), .val (.int p2), .val (.int p3), .val (.int p4), .val (.int p5), .val (.int r_1), .val (.int r_2), .val (.int r_3), .val (.int r_4), .val (.int (4 : Int32)), .val (.ref b5), .val (.ref b13), .val (.ref b25), .val (.ref b41), .val (.ref b41), .unset, .unset, .unset, .unset] [])) rfl (hb hby at_139) (by decide) (by decide)
  obtain ⟨b61, g61⟩ : ∃ z, z = h57.size := ⟨_, rfl⟩
  rw [← g61] at A61 D61 st61
  have G61 : n0 ≤ b61 := Nat.le_trans f60 (Nat.le_of_eq g61.symm)
  have B61 : h0.size ≤ b61 := Nat.le_trans K59.1 (Nat.le_of_eq g61.symm)
  have CH62 := CH58.ext E61
  have CR62 := CHr.trans CR58 (CHr.ext E61 CH58)
  have K63 : Keep h0 h61 [] := K59.ext E61
  have SF61 : Safe Z own_EL s.vm h61 b61 := Safe.ext E61 CH58 (Safe.new (x := b61) (Nat.le_of_eq g61.symm))
  have D61_coder : Fld Z h61 b61 "java/lang/String" "coder" "B" (.int (0 : Int32)) := D61 (Or.inr (hw _ (List.mem_of_getElem? (i := 32) rfl))) (ty := .byte) (by decide)
  have D61_value : Fld Z h61 b61 "java/lang/String" "value" "[B" .null := D61 (Or.inr (hw _ (List.mem_of_getElem? (i := 34) rfl))) (ty := (.array .byte)) (by decide)
  refine own_st st61 ?_
  show own_Go p e below T61 (mkF m 142 #[.val (.int p0), .val (.int p1), .val (.int p2), .val (.int p3), .val (.int p4), .val (.int p5), .val (.int r_1), .val (.int r_2), .val (.int r_3), .val (.int r_4), .val (.int (4 : Int32)), .val (.ref b5), .val (.ref b13), .val (.ref b25), .val (.ref b41), .val (.ref b41), .unset, .unset, .unset, .unset] [(.ref b61)]) _
  refine own_st (fun t_ k_ => XS.dup X61.here hx rfl (hb hby at_142) rfl rfl k_) ?_
  show own_Go p e below T61 (mkF m 143 #[.val (.int p0), .val (.int p1), .val (.int p2), .val (.int p3), .val (.int p4), .val (.int p5), .val (.int r_1), .val (.int r_2), .val (.int r_3), .val (.int r_4), .val (.int (4 : Int32)), .val (.ref b5), .val (.ref b13), .val (.ref b25), .val (.ref b41), .val (.ref b41), .unset, .unset, .unset, .unset] [(.ref b61), (.ref b61)]) _
  refine own_st (fun t_ k_ => XS.aload X61.here hx rfl (hb hby at_143) rfl rfl k_) ?_
  show own_Go p e below T61 (mkF m 145 #[.val (.int p0), .val (.int p1), .val (.int p2), .val (.int p3), .val (.int p4), .val (.int p5), .val (.int r_1), .val (.int r_2), .val (.int r_3), .val (.int r_4), .val (.int (4 : Int32)), .val (.ref b5), .val (.ref b13), .val (.ref b25), .val (.ref b41), .val (.ref b41), .unset, .unset, .unset, .unset] [(.ref b41), (.ref b61), (.ref b61)]) _
  have hp1 : ∀ c ∈ ([r_1, r_2, r_3, r_4] : List Int32), ¬ c < 0 ∧ ¬ (255 : Int32) < c := by
    intro c hc
    simp only [List.mem_cons, List.not_mem_nil, or_false] at hc
    rcases hc with rfl | rfl | rfl | rfl
    · exact own_al255 q1_0
    · exact own_al255 q2_0
    · exact own_al255 q3_0
    · exact own_al255 q4_0
  have f64 := (Nat.le_trans f60 E61.1)
  have f65 := (V57.ext E61)
  have f66 := (((((((((((((((pO.ext E5).wr W9 G5).ext E13).wr W17 G13).wr W21 G13).ext E25).wr W29 G25).wr W33 G25).wr W37 G25).ext E41).wr W45 G41).wr W49 G41).wr W53 G41).wr W57 G41).ext E61)
  obtain ⟨_, _, ⟨T67, L67, k67, n67⟩, -, X67, ⟨Lc67, hQ67, l67, y67, z67⟩, st67⟩ := X61.specialBack hx (y := (⟨"java/lang/String", "<init>", "([C)V"⟩ : MethodName)) rfl hown (mvT hZ (hw _ (List.mem_of_getElem? (i := 9) rfl))) (mvT hZ (hw _ (List.mem_of_getElem? (i := 10) rfl))) (mvT hZ (hw _ (List.mem_of_getElem? (i := 11) rfl))) (by decide) (StrChars.Road.backV (W := 1) hZ hws (kI := 4) (hw _ (List.mem_of_getElem? (i := 7) rfl)) (cs := ([r_1, r_2, r_3, r_4] : List Int32)) (bs := (([r_1, r_2, r_3, r_4] : List Int32)).map (fun c => c.toInt8.toInt32)) (n := 4) G61 f64 A61 D61_value D61_coder f65 (pS_COMPACT_STRINGS.ext f66.2) pP5 rfl rfl (by decide) (by decide) hp1 rfl (by decide) (by decide)) (g := (mkF m 145 #[.val (.int p0), .val (.int p1), .val (.int p2), .val (.int p3), .val (.int p4), .val (.int p5), .val (.int r_1), .val (.int r_2), .val (.int r_3), .val (.int r_4), .val (.int (4 : Int32)), .val (.ref b5), .val (.ref b13), .val (.ref b25), .val (.ref b41), .val (.ref b41), .unset, .unset, .unset, .unset] [(.ref b41), (.ref b61), (.ref b61)])) rfl (by rw [hml]; rfl) (Steps.refl _) (a := b61) (argsL := [(.ref b41)]) (rest := [(.ref b61)]) (lenOf pd___C_V rfl) rfl (by show 2 * 0 + _ ≤ _; exact Nat.le_of_eq rfl) (hb hby at_145) (fun _ _ => ⟨rfl, e61, (by decide : 5 + 1 ≤ _), (by decide : 14 + 4 ≤ _)⟩)
  dsimp only [Pt.U, Pt.locs, Pt.cells, Pt.slots] at X67 l67 y67 z67 st67 hQ67
  try dsimp only [Nat.reduceAdd] at y67 z67
  rw [l67, y67, z67] at X67
  obtain ⟨rfl, Nq67, Kq67, q67_E, q67_c, t67, kb67, q67_g, q67_b, q67_n, q67_v, q67_V⟩ := hQ67
  have N67 := Fr.app N57 Nq67
  have Sa68 : ∀ y ∈ [b61], Safe Z own_EL s.vm h61 y := (sfS SF61 sf0)
  have CH68 := CH62.keep Kq67 Sa68
  have CR68 := CHr.trans CR62 (CHr.keep Kq67 Sa68 CH62)
  have K69 : Keep h0 T67.heap [] := K63.trans Kq67 (allS (Or.inr B61) all0)
  have Bf70 : h0.size ≤ t67 := Nat.le_trans K63.1 q67_b
  refine own_tr st67 ?_
  show own_Go p e below T67 (mkF m 148 #[.val (.int p0), .val (.int p1), .val (.int p2), .val (.int p3), .val (.int p4), .val (.int p5), .val (.int r_1), .val (.int r_2), .val (.int r_3), .val (.int r_4), .val (.int (4 : Int32)), .val (.ref b5), .val (.ref b13), .val (.ref b25), .val (.ref b41), .val (.ref b41), .unset, .unset, .unset, .unset] [(.ref b61)]) _
  refine own_st (fun t_ k_ => XS.astore X67.here hx rfl (hb hby at_148) rfl rfl (l' := #[.val (.int p0), .val (.int p1), .val (.int p2), .val (.int p3), .val (.int p4), .val (.int p5), .val (.int r_1), .val (.int r_2), .val (.int r_3), .val (.int r_4), .val (.int (4 : Int32)), .val (.ref b5), .val (.ref b13), .val (.ref b25), .val (.ref b41), .val (.ref b41), .val (.ref b61), .unset, .unset, .unset]) rfl k_) ?_
  show own_Go p e below T67 (mkF m 150 #[.val (.int p0), .val (.int p1), .val (.int p2), .val (.int p3), .val (.int p4), .val (.int p5), .val (.int r_1), .val (.int r_2), .val (.int r_3), .val (.int r_4), .val (.int (4 : Int32)), .val (.ref b5), .val (.ref b13), .val (.ref b25), .val (.ref b41), .val (.ref b41), .val (.ref b61), .unset, .unset, .unset] []) _
  refine own_st (fun t_ k_ => XS.iload X67.here hx rfl (hb hby at_150) rfl k_) ?_
  show own_Go p e below T67 (mkF m 152 #[.val (.int p0), .val (.int p1), .val (.int p2), .val (.int p3), .val (.int p4), .val (.int p5), .val (.int r_1), .val (.int r_2), .val (.int r_3), .val (.int r_4), .val (.int (4 : Int32)), .val (.ref b5), .val (.ref b13), .val (.ref b25), .val (.ref b41), .val (.ref b41), .val (.ref b61), .unset, .unset, .unset] [(.int p5)]) _
  have f71 := (Nat.le_trans f64 Kq67.1)
  obtain ⟨_, _, ⟨T72, L72, k72, n72⟩, -, X72, ⟨Lc72, hQ72, l72, y72, z72⟩, st72⟩ := Jvm.LawKit.callS X67 hx (y := (⟨"com/example/faithful_courier/faithfulcourier/core/NameOfPinLaw", "allowed", "(I)C"⟩ : MethodName)) hown (mvT hZ (hw _ (List.mem_of_getElem? (i := 0) rfl))) (mvT hZ (hw _ (List.mem_of_getElem? (i := 1) rfl))) (mvT hZ (hw _ (List.mem_of_getElem? (i := 2) rfl))) (mvT hZ (hw _ (List.mem_of_getElem? (i := 3) rfl))) (by decide) (backOf (W := 0) (rmAl l Z a0 hw [] p5 T67.heap n0 f71 ) hZ (hw _ (List.mem_of_getElem? (i := 3) rfl)) (hw _ (List.mem_of_getElem? (i := 2) rfl)) (by decide) (by decide)) (g := (mkF m 152 #[.val (.int p0), .val (.int p1), .val (.int p2), .val (.int p3), .val (.int p4), .val (.int p5), .val (.int r_1), .val (.int r_2), .val (.int r_3), .val (.int r_4), .val (.int (4 : Int32)), .val (.ref b5), .val (.ref b13), .val (.ref b25), .val (.ref b41), .val (.ref b41), .val (.ref b61), .unset, .unset, .unset] [(.int p5)])) rfl (by rw [hml]; rfl) (argsL := [(.int p5)]) (rest := []) (lenOf pd__I_C rfl) rfl (by show 2 * 0 + _ ≤ _; exact Nat.le_of_eq rfl) (hb hby at_152) (fun _ _ => ⟨rfl, rfl, (by decide : 6 + 0 ≤ _), (by decide : 18 + 0 ≤ _)⟩)
  dsimp only [Pt.U, Pt.locs, Pt.cells, Pt.slots] at X72 l72 y72 z72 st72 hQ72
  try dsimp only [Nat.reduceAdd] at y72 z72
  rw [l72, y72, z72] at X72
  obtain ⟨r_72, rfl, Nq72, eH72, q72_0⟩ := hQ72
  have N72 := Fr.app N67 Nq72
  refine own_st st72 ?_
  show own_Go p e below T72 (mkF m 155 #[.val (.int p0), .val (.int p1), .val (.int p2), .val (.int p3), .val (.int p4), .val (.int p5), .val (.int r_1), .val (.int r_2), .val (.int r_3), .val (.int r_4), .val (.int (4 : Int32)), .val (.ref b5), .val (.ref b13), .val (.ref b25), .val (.ref b41), .val (.ref b41), .val (.ref b61), .unset, .unset, .unset] [(.int r_72)]) _
  have f73 := (f66.keep Kq67 (allS G61 all0))
  obtain ⟨_, _, ⟨T74, L74, k74, n74⟩, -, X74, ⟨Lc74, hQ74, l74, y74, z74⟩, st74⟩ := Jvm.LawKit.callS X72 hx (y := (⟨"java/lang/String", "valueOf", "(C)Ljava/lang/String;"⟩ : MethodName)) hown (mvT hZ (hw _ (List.mem_of_getElem? (i := 35) rfl))) (mvT hZ (hw _ (List.mem_of_getElem? (i := 36) rfl))) (mvT hZ (hw _ (List.mem_of_getElem? (i := 8) rfl))) (mvT hZ (hw _ (List.mem_of_getElem? (i := 37) rfl))) (by decide) (backOf (W := 0) (rmVo l Z a0 hw [] r_72 zc T67.heap n0 f71 (own_al255 q72_0).2 pS_COMPACT_STRINGS pP5 f73) hZ (hw _ (List.mem_of_getElem? (i := 37) rfl)) (hw _ (List.mem_of_getElem? (i := 8) rfl)) (by decide) (by decide)) (g := (mkF m 155 #[.val (.int p0), .val (.int p1), .val (.int p2), .val (.int p3), .val (.int p4), .val (.int p5), .val (.int r_1), .val (.int r_2), .val (.int r_3), .val (.int r_4), .val (.int (4 : Int32)), .val (.ref b5), .val (.ref b13), .val (.ref b25), .val (.ref b41), .val (.ref b41), .val (.ref b61), .unset, .unset, .unset] [(.int r_72)])) rfl (by rw [hml]; rfl) (argsL := [(.int r_72)]) (rest := []) (lenOf pd__C_Ljava_lang_String_ rfl) rfl (by show 2 * 0 + _ ≤ _; exact Nat.le_of_eq rfl) (hb hby at_155) (fun _ _ => ⟨rfl, eH72, (by decide : 6 + 2 ≤ _), (by decide : 18 + 5 ≤ _)⟩)
  dsimp only [Pt.U, Pt.locs, Pt.cells, Pt.slots] at X74 l74 y74 z74 st74 hQ74
  try dsimp only [Nat.reduceAdd] at y74 z74
  rw [l74, y74, z74] at X74
  obtain ⟨x_74, t_74, kb_74, rfl, Nq74, Kq74, q74_0, q74_1, q74_2, q74_3, q74_4, q74_5, q74_6, q74_7⟩ := hQ74
  have N74 := Fr.app N72 Nq74
  have CH75 := CH68.keep Kq74 sf0
  have CR75 := CHr.trans CR68 (CHr.keep Kq74 sf0 CH68)
  have K76 : Keep h0 T74.heap [] := K69.trans Kq74 all0
  have Bf77 : h0.size ≤ x_74 := Nat.le_trans K69.1 q74_4
  have Bf78 : h0.size ≤ t_74 := Nat.le_trans K69.1 q74_6
  refine own_st st74 ?_
  show own_Go p e below T74 (mkF m 158 #[.val (.int p0), .val (.int p1), .val (.int p2), .val (.int p3), .val (.int p4), .val (.int p5), .val (.int r_1), .val (.int r_2), .val (.int r_3), .val (.int r_4), .val (.int (4 : Int32)), .val (.ref b5), .val (.ref b13), .val (.ref b25), .val (.ref b41), .val (.ref b41), .val (.ref b61), .unset, .unset, .unset] [(.ref x_74)]) _
  have hp2 : ∀ c ∈ ([r_72] : List Int32), ¬ c < 0 ∧ ¬ (255 : Int32) < c := by intro c hc; simp only [List.mem_cons, List.not_mem_nil, or_false] at hc; subst hc; exact own_al255 q72_0
  refine own_st (fun t_ k_ => XS.astore X74.here hx rfl (hb hby at_158) rfl rfl (l' := #[.val (.int p0), .val (.int p1), .val (.int p2), .val (.int p3), .val (.int p4), .val (.int p5), .val (.int r_1), .val (.int r_2), .val (.int r_3), .val (.int r_4), .val (.int (4 : Int32)), .val (.ref b5), .val (.ref b13), .val (.ref b25), .val (.ref b41), .val (.ref b41), .val (.ref b61), .val (.ref x_74), .unset, .unset]) rfl k_) ?_
  show own_Go p e below T74 (mkF m 160 #[.val (.int p0), .val (.int p1), .val (.int p2), .val (.int p3), .val (.int p4), .val (.int p5), .val (.int r_1), .val (.int r_2), .val (.int r_3), .val (.int r_4), .val (.int (4 : Int32)), .val (.ref b5), .val (.ref b13), .val (.ref b25), .val (.ref b41), .val (.ref b41), .val (.ref b61), .val (.ref x_74), .unset, .unset] []) _
  refine own_st (fun t_ k_ => XS.aload X74.here hx rfl (hb hby at_160) rfl rfl k_) ?_
  show own_Go p e below T74 (mkF m 162 #[.val (.int p0), .val (.int p1), .val (.int p2), .val (.int p3), .val (.int p4), .val (.int p5), .val (.int r_1), .val (.int r_2), .val (.int r_3), .val (.int r_4), .val (.int (4 : Int32)), .val (.ref b5), .val (.ref b13), .val (.ref b25), .val (.ref b41), .val (.ref b41), .val (.ref b61), .val (.ref x_74), .unset, .unset] [(.ref b61)]) _
  have f79 := (Nat.le_trans f71 Kq74.1)
  have f80 := (q67_E.keep Kq74)
  have f81 := (q67_v.keep Kq74 nin0)
  have f82 := (q67_c.keep Kq74 nin0)
  have f83 := (q67_V.keep Kq74 nin0)
  have f84 := (f73.keep Kq74 all0)
  have f86 := (Nat.le_trans (Nat.le_trans (Nat.le_trans (Nat.le_trans (Nat.le_trans (Nat.le_trans (Nat.le_trans (Nat.le_trans (Nat.le_trans (Nat.le_trans (Nat.le_trans (Nat.le_trans (Nat.le_trans (Nat.le_trans (Nat.le_trans (Nat.le_trans (Nat.le_trans hK0 E5.1) (Keep.of_wr W9).1) E13.1) (Keep.of_wr W17).1) (Keep.of_wr W21).1) E25.1) (Keep.of_wr W29).1) (Keep.of_wr W33).1) (Keep.of_wr W37).1) E41.1) (Keep.of_wr W45).1) (Keep.of_wr W49).1) (Keep.of_wr W53).1) (Keep.of_wr W57).1) E61.1) Kq67.1) Kq74.1)
  obtain ⟨_, _, ⟨T85, L85, k85, n85⟩, -, Xa85, hSa85, hGa85, ⟨Lc85, hQ85, l85, y85, z85, A85⟩, st85⟩ := Jvm.RoadKit.callSS X74 hx (y := (⟨"com/example/faithful_courier/faithfulcourier/core/Name", "of", "(Ljava/lang/String;)Lcom/example/faithful_courier/faithfulcourier/core/Name;"⟩ : MethodName)) hown (mvT hZ (hw _ (List.mem_of_getElem? (i := 49) rfl))) (mvT hZ (hw _ (List.mem_of_getElem? (i := 50) rfl))) (mvT hZ (hw _ (List.mem_of_getElem? (i := 51) rfl))) (mvT hZ (hw _ (List.mem_of_getElem? (i := 52) rfl))) (by decide) (backOfSH (W := 0) (rmOf4 l Z a0 hw [] b61 t67 kb67 r_1 r_2 r_3 r_4 zc fm T74.heap n0 f79 f80 f81 f82 f83 hp1 q1_0 q2_0 q3_0 q4_0 pS_COMPACT_STRINGS pP5 pS_SIOOBE_FORMATTER rfm f84) hZ (hw _ (List.mem_of_getElem? (i := 52) rfl)) (hw _ (List.mem_of_getElem? (i := 51) rfl)) (by decide) (by decide) hEL CH75) (g := (mkF m 162 #[.val (.int p0), .val (.int p1), .val (.int p2), .val (.int p3), .val (.int p4), .val (.int p5), .val (.int r_1), .val (.int r_2), .val (.int r_3), .val (.int r_4), .val (.int (4 : Int32)), .val (.ref b5), .val (.ref b13), .val (.ref b25), .val (.ref b41), .val (.ref b41), .val (.ref b61), .val (.ref x_74), .unset, .unset] [(.ref b61)])) rfl (by rw [hml]; rfl) (argsL := [(.ref b61)]) (rest := []) (lenOf pd__Ljava_lang_String__Lcom_example_faithful_courier_faithfulcourier_core_Name_ rfl) rfl (by show 2 * 0 + _ ≤ _; exact Nat.le_of_eq rfl) (hb hby at_162) (fun _ _ => ⟨rfl, rfl, (by decide : 8 + 3 ≤ _), (by decide : 23 + 21 ≤ _)⟩)
  dsimp only [Pt.U, Pt.locs, Pt.cells, Pt.slots] at Xa85 hSa85 hGa85 l85 y85 z85 A85 st85 hQ85
  try dsimp only [Nat.reduceAdd] at y85 z85
  rw [l85, y85, z85] at Xa85
  obtain ⟨X85, hS, hZ, hown⟩ := rebS hS f86 Xa85 hSa85 hGa85 hZ hown
  obtain ⟨b_85, rfl, Nq85, Kq85, q85_0, q85_1, q85_2, q85_3⟩ := hQ85
  have N85 := Fr.app N74 Nq85
  have CH87 := A85.1
  have CR87 := CHr.trans CR75 (A85)
  have K88 : Keep h0 T85.heap [] := K76.trans Kq85 all0
  have hK85 : T85.heap.size ≤ T85.heap.size := Nat.le_refl _
  have Bf89 : h0.size ≤ b_85 := Nat.le_trans K76.1 q85_2
  refine own_tr st85 ?_
  show own_Go p e below T85 (mkF m 165 #[.val (.int p0), .val (.int p1), .val (.int p2), .val (.int p3), .val (.int p4), .val (.int p5), .val (.int r_1), .val (.int r_2), .val (.int r_3), .val (.int r_4), .val (.int (4 : Int32)), .val (.ref b5), .val (.ref b13), .val (.ref b25), .val (.ref b41), .val (.ref b41), .val (.ref b61), .val (.ref x_74), .unset, .unset] [(.ref b_85)]) _
  refine own_st (fun t_ k_ => XS.astore X85.here hx rfl (hb hby at_165) rfl rfl (l' := #[.val (.int p0), .val (.int p1), .val (.int p2), .val (.int p3), .val (.int p4), .val (.int p5), .val (.int r_1), .val (.int r_2), .val (.int r_3), .val (.int r_4), .val (.int (4 : Int32)), .val (.ref b5), .val (.ref b13), .val (.ref b25), .val (.ref b41), .val (.ref b41), .val (.ref b61), .val (.ref x_74), .val (.ref b_85), .unset]) rfl k_) ?_
  show own_Go p e below T85 (mkF m 167 #[.val (.int p0), .val (.int p1), .val (.int p2), .val (.int p3), .val (.int p4), .val (.int p5), .val (.int r_1), .val (.int r_2), .val (.int r_3), .val (.int r_4), .val (.int (4 : Int32)), .val (.ref b5), .val (.ref b13), .val (.ref b25), .val (.ref b41), .val (.ref b41), .val (.ref b61), .val (.ref x_74), .val (.ref b_85), .unset] []) _
  refine own_st (fun t_ k_ => XS.aload X85.here hx rfl (hb hby at_167) rfl rfl k_) ?_
  show own_Go p e below T85 (mkF m 169 #[.val (.int p0), .val (.int p1), .val (.int p2), .val (.int p3), .val (.int p4), .val (.int p5), .val (.int r_1), .val (.int r_2), .val (.int r_3), .val (.int r_4), .val (.int (4 : Int32)), .val (.ref b5), .val (.ref b13), .val (.ref b25), .val (.ref b41), .val (.ref b41), .val (.ref b61), .val (.ref x_74), .val (.ref b_85), .unset] [(.ref x_74)]) _
  have f90 := (Nat.le_trans f79 Kq85.1)
  have f91 := (q74_0.keep Kq85)
  have f92 := (q74_1.keep Kq85 nin0)
  have f93 := (q74_2.keep Kq85 nin0)
  have f94 := (q74_3.keep Kq85 nin0)
  have f95 := (f84.keep Kq85 all0)
  obtain ⟨_, _, ⟨T96, L96, k96, n96⟩, -, Xa96, hSa96, hGa96, ⟨Lc96, hQ96, l96, y96, z96, A96⟩, st96⟩ := Jvm.RoadKit.callSS X85 hx (y := (⟨"com/example/faithful_courier/faithfulcourier/core/Name", "of", "(Ljava/lang/String;)Lcom/example/faithful_courier/faithfulcourier/core/Name;"⟩ : MethodName)) hown (mvT hZ (hw _ (List.mem_of_getElem? (i := 49) rfl))) (mvT hZ (hw _ (List.mem_of_getElem? (i := 50) rfl))) (mvT hZ (hw _ (List.mem_of_getElem? (i := 51) rfl))) (mvT hZ (hw _ (List.mem_of_getElem? (i := 52) rfl))) (by decide) (backOfSH (W := 0) (rmOf1 l Z a0 hw [] x_74 t_74 kb_74 r_72 zc fm T85.heap n0 f90 f91 f92 f93 f94 hp2 q72_0 pS_COMPACT_STRINGS pP5 pS_SIOOBE_FORMATTER rfm f95) hZ (hw _ (List.mem_of_getElem? (i := 52) rfl)) (hw _ (List.mem_of_getElem? (i := 51) rfl)) (by decide) (by decide) hEL CH87) (g := (mkF m 169 #[.val (.int p0), .val (.int p1), .val (.int p2), .val (.int p3), .val (.int p4), .val (.int p5), .val (.int r_1), .val (.int r_2), .val (.int r_3), .val (.int r_4), .val (.int (4 : Int32)), .val (.ref b5), .val (.ref b13), .val (.ref b25), .val (.ref b41), .val (.ref b41), .val (.ref b61), .val (.ref x_74), .val (.ref b_85), .unset] [(.ref x_74)])) rfl (by rw [hml]; rfl) (argsL := [(.ref x_74)]) (rest := []) (lenOf pd__Ljava_lang_String__Lcom_example_faithful_courier_faithfulcourier_core_Name_ rfl) rfl (by show 2 * 0 + _ ≤ _; exact Nat.le_of_eq rfl) (hb hby at_169) (fun _ _ => ⟨rfl, rfl, (by decide : 11 + 3 ≤ _), (by decide : 44 + 21 ≤ _)⟩)
  dsimp only [Pt.U, Pt.locs, Pt.cells, Pt.slots] at Xa96 hSa96 hGa96 l96 y96 z96 A96 st96 hQ96
  try dsimp only [Nat.reduceAdd] at y96 z96
  rw [l96, y96, z96] at Xa96
  obtain ⟨X96, hS, hZ, hown⟩ := rebS hS hK85 Xa96 hSa96 hGa96 hZ hown
  obtain ⟨b_96, rfl, Nq96, Kq96, q96_0, q96_1, q96_2, q96_3⟩ := hQ96
  have N96 := Fr.app N85 Nq96
  have CH97 := A96.1
  have CR97 := CHr.trans CR87 (A96)
  have K98 : Keep h0 T96.heap [] := K88.trans Kq96 all0
  have hK96 : T96.heap.size ≤ T96.heap.size := Nat.le_refl _
  have Bf99 : h0.size ≤ b_96 := Nat.le_trans K88.1 q96_2
  refine own_tr st96 ?_
  show own_Go p e below T96 (mkF m 172 #[.val (.int p0), .val (.int p1), .val (.int p2), .val (.int p3), .val (.int p4), .val (.int p5), .val (.int r_1), .val (.int r_2), .val (.int r_3), .val (.int r_4), .val (.int (4 : Int32)), .val (.ref b5), .val (.ref b13), .val (.ref b25), .val (.ref b41), .val (.ref b41), .val (.ref b61), .val (.ref x_74), .val (.ref b_85), .unset] [(.ref b_96)]) _
  refine own_st (fun t_ k_ => XS.astore X96.here hx rfl (hb hby at_172) rfl rfl (l' := #[.val (.int p0), .val (.int p1), .val (.int p2), .val (.int p3), .val (.int p4), .val (.int p5), .val (.int r_1), .val (.int r_2), .val (.int r_3), .val (.int r_4), .val (.int (4 : Int32)), .val (.ref b5), .val (.ref b13), .val (.ref b25), .val (.ref b41), .val (.ref b41), .val (.ref b61), .val (.ref x_74), .val (.ref b_85), .val (.ref b_96)]) rfl k_) ?_
  show own_Go p e below T96 (mkF m 174 #[.val (.int p0), .val (.int p1), .val (.int p2), .val (.int p3), .val (.int p4), .val (.int p5), .val (.int r_1), .val (.int r_2), .val (.int r_3), .val (.int r_4), .val (.int (4 : Int32)), .val (.ref b5), .val (.ref b13), .val (.ref b25), .val (.ref b41), .val (.ref b41), .val (.ref b61), .val (.ref x_74), .val (.ref b_85), .val (.ref b_96)] []) _
  refine own_st (fun t_ k_ => XS.aload X96.here hx rfl (hb hby at_174) rfl rfl k_) ?_
  show own_Go p e below T96 (mkF m 176 #[.val (.int p0), .val (.int p1), .val (.int p2), .val (.int p3), .val (.int p4), .val (.int p5), .val (.int r_1), .val (.int r_2), .val (.int r_3), .val (.int r_4), .val (.int (4 : Int32)), .val (.ref b5), .val (.ref b13), .val (.ref b25), .val (.ref b41), .val (.ref b41), .val (.ref b61), .val (.ref x_74), .val (.ref b_85), .val (.ref b_96)] [(.ref b_85)]) _
  have f100 := (Nat.le_trans f90 Kq96.1)
  have f101 := (q85_1.keep Kq96 nin0)
  have f103 := (q85_0.keep Kq96)
  obtain ⟨cq102, kq102, qa102, qb102, qc102⟩ := isOf hZ rfl f103
  obtain ⟨_, _, ⟨T102, L102, k102, n102⟩, -, X102, ⟨Lc102, hQ102, l102, y102, z102⟩, st102⟩ := X96.virtualBack hx (y := (⟨"com/example/faithful_courier/faithfulcourier/core/Name", "toString", "()Ljava/lang/String;"⟩ : MethodName)) (z := (⟨"com/example/faithful_courier/faithfulcourier/core/Name", "toString", "()Ljava/lang/String;"⟩ : MethodName)) hown (mvT hZ (hw _ (List.mem_of_getElem? (i := 107) rfl))) (mvT hZ (hw _ (List.mem_of_getElem? (i := 108) rfl))) (notFace_of_selects (args := #[]) (mvT hZ (hw _ (List.mem_of_getElem? (i := 110) rfl)))) (mvT hZ (hw _ (List.mem_of_getElem? (i := 110) rfl))) (mvT hZ (hw _ (List.mem_of_getElem? (i := 109) rfl))) (by decide) (backOf (W := 0) (rmTs l Z a0 hw [] b_85 b61 T96.heap n0 f100 f101) hZ (hw _ (List.mem_of_getElem? (i := 111) rfl)) (hw _ (List.mem_of_getElem? (i := 51) rfl)) (by decide) (by decide)) qa102 qc102 (g := (mkF m 176 #[.val (.int p0), .val (.int p1), .val (.int p2), .val (.int p3), .val (.int p4), .val (.int p5), .val (.int r_1), .val (.int r_2), .val (.int r_3), .val (.int r_4), .val (.int (4 : Int32)), .val (.ref b5), .val (.ref b13), .val (.ref b25), .val (.ref b41), .val (.ref b41), .val (.ref b61), .val (.ref x_74), .val (.ref b_85), .val (.ref b_96)] [(.ref b_85)])) rfl (by rw [hml]; rfl) (Steps.refl _) (argsL := []) (rest := []) (lenOf pd___Ljava_lang_String_ rfl) rfl (by show 2 * 0 + _ ≤ _; exact Nat.le_of_eq rfl) (hb hby at_176) (fun _ _ => ⟨rfl, rfl, (by decide : 14 + 0 ≤ _), (by decide : 65 + 0 ≤ _)⟩)
  dsimp only [Pt.U, Pt.locs, Pt.cells, Pt.slots] at X102 l102 y102 z102 st102 hQ102
  try dsimp only [Nat.reduceAdd] at y102 z102
  rw [l102, y102, z102] at X102
  obtain ⟨rfl, Nq102, eH102⟩ := hQ102
  have N102 := Fr.app N96 Nq102
  refine own_tr st102 ?_
  show own_Go p e below T102 (mkF m 179 #[.val (.int p0), .val (.int p1), .val (.int p2), .val (.int p3), .val (.int p4), .val (.int p5), .val (.int r_1), .val (.int r_2), .val (.int r_3), .val (.int r_4), .val (.int (4 : Int32)), .val (.ref b5), .val (.ref b13), .val (.ref b25), .val (.ref b41), .val (.ref b41), .val (.ref b61), .val (.ref x_74), .val (.ref b_85), .val (.ref b_96)] [(.ref b61)]) _
  refine own_st (fun t_ k_ => XS.aload X102.here hx rfl (hb hby at_179) rfl rfl k_) ?_
  show own_Go p e below T102 (mkF m 181 #[.val (.int p0), .val (.int p1), .val (.int p2), .val (.int p3), .val (.int p4), .val (.int p5), .val (.int r_1), .val (.int r_2), .val (.int r_3), .val (.int r_4), .val (.int (4 : Int32)), .val (.ref b5), .val (.ref b13), .val (.ref b25), .val (.ref b41), .val (.ref b41), .val (.ref b61), .val (.ref x_74), .val (.ref b_85), .val (.ref b_96)] [(.ref b61), (.ref b61)]) _
  have hcd104 : StrChars.Road.CodA ([r_1, r_2, r_3, r_4] : List Int32) 0 (4 : Int32) ((([r_1, r_2, r_3, r_4] : List Int32).map (fun c => c.toInt8.toInt32)).map Value.int) := StrChars.Road.codOf rfl (fun x hx => (hp1 x hx).2)
  have hbd104 : ∀ x ∈ ([r_1, r_2, r_3, r_4] : List Int32), ¬ x < 0 ∧ ¬ (65535 : Int32) < x := own_up _ hp1
  have f105 := ((f80.keep Kq85).keep Kq96)
  have f106 := ((f81.keep Kq85 nin0).keep Kq96 nin0)
  have f107 := ((f82.keep Kq85 nin0).keep Kq96 nin0)
  have f108 := ((f83.keep Kq85 nin0).keep Kq96 nin0)
  have f109 := (f95.keep Kq96 all0)
  obtain ⟨cq110, kq110, qa110, qb110, qc110⟩ := isOf hZ eH102 f105
  obtain ⟨_, _, ⟨T110, L110, k110, n110⟩, -, X110, ⟨Lc110, hQ110, l110, y110, z110⟩, st110⟩ := X102.virtualBack hx (y := (⟨"java/lang/String", "equals", "(Ljava/lang/Object;)Z"⟩ : MethodName)) (z := (⟨"java/lang/String", "equals", "(Ljava/lang/Object;)Z"⟩ : MethodName)) hown (mvT hZ (hw _ (List.mem_of_getElem? (i := 112) rfl))) (mvT hZ (hw _ (List.mem_of_getElem? (i := 113) rfl))) (notFace_of_selects (args := #[]) (mvT hZ (hw _ (List.mem_of_getElem? (i := 115) rfl)))) (mvT hZ (hw _ (List.mem_of_getElem? (i := 115) rfl))) (mvT hZ (hw _ (List.mem_of_getElem? (i := 114) rfl))) (by decide) (StrChars.Road.eqW (W := 0) hZ heq (kI := 4) (hw _ (List.mem_of_getElem? (i := 7) rfl)) f105 f106 f107 f108 hcd104 hbd104 (Nat.le_of_ble_eq_true rfl) f105 f106 f107 f108 hcd104 hbd104 (Nat.le_of_ble_eq_true rfl) (pS_COMPACT_STRINGS.ext f109.2) pP5 (by decide) (by decide)) qa110 qc110 (g := (mkF m 181 #[.val (.int p0), .val (.int p1), .val (.int p2), .val (.int p3), .val (.int p4), .val (.int p5), .val (.int r_1), .val (.int r_2), .val (.int r_3), .val (.int r_4), .val (.int (4 : Int32)), .val (.ref b5), .val (.ref b13), .val (.ref b25), .val (.ref b41), .val (.ref b41), .val (.ref b61), .val (.ref x_74), .val (.ref b_85), .val (.ref b_96)] [(.ref b61), (.ref b61)])) rfl (by rw [hml]; rfl) (Steps.refl _) (argsL := [(.ref b61)]) (rest := []) (lenOf pd__Ljava_lang_Object__Z rfl) rfl (by show 2 * 0 + _ ≤ _; exact Nat.le_of_eq rfl) (hb hby at_181) (fun _ _ => ⟨rfl, eH102, (by decide : 14 + 0 ≤ _), (by decide : 65 + 0 ≤ _)⟩)
  dsimp only [Pt.U, Pt.locs, Pt.cells, Pt.slots] at X110 l110 y110 z110 st110 hQ110
  try dsimp only [Nat.reduceAdd] at y110 z110
  rw [l110, y110, z110] at X110
  obtain ⟨hcase110, rfl, eH110⟩ := hQ110
  have N110 := Fr.app N102 (Fr.nil n0)
  have hv110 : _ = some (Value.int 1) := hcase110.elim (fun q => q.1) (fun q => absurd rfl q.2)
  subst hv110
  refine own_tr st110 ?_
  show own_Go p e below T110 (mkF m 184 #[.val (.int p0), .val (.int p1), .val (.int p2), .val (.int p3), .val (.int p4), .val (.int p5), .val (.int r_1), .val (.int r_2), .val (.int r_3), .val (.int r_4), .val (.int (4 : Int32)), .val (.ref b5), .val (.ref b13), .val (.ref b25), .val (.ref b41), .val (.ref b41), .val (.ref b61), .val (.ref x_74), .val (.ref b_85), .val (.ref b_96)] [(.int (1 : Int32))]) _
  refine own_st (fun t_ k_ => XS.ifNo X110.here hx rfl (hb hby at_184) rfl (by decide) k_) ?_
  show own_Go p e below T110 (mkF m 187 #[.val (.int p0), .val (.int p1), .val (.int p2), .val (.int p3), .val (.int p4), .val (.int p5), .val (.int r_1), .val (.int r_2), .val (.int r_3), .val (.int r_4), .val (.int (4 : Int32)), .val (.ref b5), .val (.ref b13), .val (.ref b25), .val (.ref b41), .val (.ref b41), .val (.ref b61), .val (.ref x_74), .val (.ref b_85), .val (.ref b_96)] []) _
  refine own_st (fun t_ k_ => XS.aload X110.here hx rfl (hb hby at_187) rfl rfl k_) ?_
  show own_Go p e below T110 (mkF m 189 #[.val (.int p0), .val (.int p1), .val (.int p2), .val (.int p3), .val (.int p4), .val (.int p5), .val (.int r_1), .val (.int r_2), .val (.int r_3), .val (.int r_4), .val (.int (4 : Int32)), .val (.ref b5), .val (.ref b13), .val (.ref b25), .val (.ref b41), .val (.ref b41), .val (.ref b61), .val (.ref x_74), .val (.ref b_85), .val (.ref b_96)] [(.ref b_85)]) _
  refine own_st (fun t_ k_ => XS.aload X110.here hx rfl (hb hby at_189) rfl rfl k_) ?_
  show own_Go p e below T110 (mkF m 191 #[.val (.int p0), .val (.int p1), .val (.int p2), .val (.int p3), .val (.int p4), .val (.int p5), .val (.int r_1), .val (.int r_2), .val (.int r_3), .val (.int r_4), .val (.int (4 : Int32)), .val (.ref b5), .val (.ref b13), .val (.ref b25), .val (.ref b41), .val (.ref b41), .val (.ref b61), .val (.ref x_74), .val (.ref b_85), .val (.ref b_96)] [(.ref b_96), (.ref b_85)]) _
  have f111 := (f91.keep Kq96)
  have f112 := (f92.keep Kq96 nin0)
  have f113 := (f93.keep Kq96 nin0)
  have f114 := (f94.keep Kq96 nin0)
  obtain ⟨cq115, kq115, qa115, qb115, qc115⟩ := isOf hZ eH110 f103
  obtain ⟨_, _, ⟨T115, L115, k115, n115⟩, -, X115, ⟨Lc115, hQ115, l115, y115, z115⟩, st115⟩ := X110.virtualBack hx (y := (⟨"com/example/faithful_courier/faithfulcourier/core/Name", "equals", "(Ljava/lang/Object;)Z"⟩ : MethodName)) (z := (⟨"com/example/faithful_courier/faithfulcourier/core/Name", "equals", "(Ljava/lang/Object;)Z"⟩ : MethodName)) hown (mvT hZ (hw _ (List.mem_of_getElem? (i := 117) rfl))) (mvT hZ (hw _ (List.mem_of_getElem? (i := 118) rfl))) (notFace_of_selects (args := #[]) (mvT hZ (hw _ (List.mem_of_getElem? (i := 120) rfl)))) (mvT hZ (hw _ (List.mem_of_getElem? (i := 120) rfl))) (mvT hZ (hw _ (List.mem_of_getElem? (i := 119) rfl))) (by decide) (backOf (W := 0) (rmEq4 l Z a0 hw [] b_85 b_96 b61 t67 kb67 x_74 t_74 kb_74 r_1 r_2 r_3 r_4 r_72 zc fm T96.heap n0 f100 f101 q96_0 q96_1 f105 f106 f107 f108 hp1 f111 f112 f113 f114 hp2 pS_COMPACT_STRINGS pP5 pS_SIOOBE_FORMATTER rfm f109) hZ (hw _ (List.mem_of_getElem? (i := 121) rfl)) (hw _ (List.mem_of_getElem? (i := 51) rfl)) (by decide) (by decide)) qa115 qc115 (g := (mkF m 191 #[.val (.int p0), .val (.int p1), .val (.int p2), .val (.int p3), .val (.int p4), .val (.int p5), .val (.int r_1), .val (.int r_2), .val (.int r_3), .val (.int r_4), .val (.int (4 : Int32)), .val (.ref b5), .val (.ref b13), .val (.ref b25), .val (.ref b41), .val (.ref b41), .val (.ref b61), .val (.ref x_74), .val (.ref b_85), .val (.ref b_96)] [(.ref b_96), (.ref b_85)])) rfl (by rw [hml]; rfl) (Steps.refl _) (argsL := [(.ref b_96)]) (rest := []) (lenOf pd__Ljava_lang_Object__Z rfl) rfl (by show 2 * 0 + _ ≤ _; exact Nat.le_of_eq rfl) (hb hby at_191) (fun _ _ => ⟨rfl, eH110, (by decide : 14 + 0 ≤ _), (by decide : 65 + 0 ≤ _)⟩)
  dsimp only [Pt.U, Pt.locs, Pt.cells, Pt.slots] at X115 l115 y115 z115 st115 hQ115
  try dsimp only [Nat.reduceAdd] at y115 z115
  rw [l115, y115, z115] at X115
  obtain ⟨r_115, rfl, Nq115, eH115, q115_0⟩ := hQ115
  have N115 := Fr.app N110 Nq115
  refine own_tr st115 ?_
  show own_Go p e below T115 (mkF m 194 #[.val (.int p0), .val (.int p1), .val (.int p2), .val (.int p3), .val (.int p4), .val (.int p5), .val (.int r_1), .val (.int r_2), .val (.int r_3), .val (.int r_4), .val (.int (4 : Int32)), .val (.ref b5), .val (.ref b13), .val (.ref b25), .val (.ref b41), .val (.ref b41), .val (.ref b61), .val (.ref x_74), .val (.ref b_85), .val (.ref b_96)] [(.int r_115)]) _
  refine own_st (fun t_ k_ => XS.aload X115.here hx rfl (hb hby at_194) rfl rfl k_) ?_
  show own_Go p e below T115 (mkF m 196 #[.val (.int p0), .val (.int p1), .val (.int p2), .val (.int p3), .val (.int p4), .val (.int p5), .val (.int r_1), .val (.int r_2), .val (.int r_3), .val (.int r_4), .val (.int (4 : Int32)), .val (.ref b5), .val (.ref b13), .val (.ref b25), .val (.ref b41), .val (.ref b41), .val (.ref b61), .val (.ref x_74), .val (.ref b_85), .val (.ref b_96)] [(.ref b61), (.int r_115)]) _
  refine own_st (fun t_ k_ => XS.aload X115.here hx rfl (hb hby at_196) rfl rfl k_) ?_
  show own_Go p e below T115 (mkF m 198 #[.val (.int p0), .val (.int p1), .val (.int p2), .val (.int p3), .val (.int p4), .val (.int p5), .val (.int r_1), .val (.int r_2), .val (.int r_3), .val (.int r_4), .val (.int (4 : Int32)), .val (.ref b5), .val (.ref b13), .val (.ref b25), .val (.ref b41), .val (.ref b41), .val (.ref b61), .val (.ref x_74), .val (.ref b_85), .val (.ref b_96)] [(.ref x_74), (.ref b61), (.int r_115)]) _
  have hcd116 : StrChars.Road.CodA ([r_72] : List Int32) 0 (1 : Int32) ((([r_72] : List Int32).map (fun c => c.toInt8.toInt32)).map Value.int) := StrChars.Road.codOf rfl (fun x hx => (hp2 x hx).2)
  have hbd116 : ∀ x ∈ ([r_72] : List Int32), ¬ x < 0 ∧ ¬ (65535 : Int32) < x := own_up _ hp2
  obtain ⟨cq117, kq117, qa117, qb117, qc117⟩ := isOf hZ eH115 f105
  obtain ⟨_, _, ⟨T117, L117, k117, n117⟩, -, X117, ⟨Lc117, hQ117, l117, y117, z117⟩, st117⟩ := X115.virtualBack hx (y := (⟨"java/lang/String", "equals", "(Ljava/lang/Object;)Z"⟩ : MethodName)) (z := (⟨"java/lang/String", "equals", "(Ljava/lang/Object;)Z"⟩ : MethodName)) hown (mvT hZ (hw _ (List.mem_of_getElem? (i := 112) rfl))) (mvT hZ (hw _ (List.mem_of_getElem? (i := 113) rfl))) (notFace_of_selects (args := #[]) (mvT hZ (hw _ (List.mem_of_getElem? (i := 115) rfl)))) (mvT hZ (hw _ (List.mem_of_getElem? (i := 115) rfl))) (mvT hZ (hw _ (List.mem_of_getElem? (i := 114) rfl))) (by decide) (StrChars.Road.eqW (W := 1) hZ heq (kI := 4) (hw _ (List.mem_of_getElem? (i := 7) rfl)) f105 f106 f107 f108 hcd104 hbd104 (Nat.le_of_ble_eq_true rfl) f111 f112 f113 f114 hcd116 hbd116 (Nat.le_of_ble_eq_true rfl) (pS_COMPACT_STRINGS.ext f109.2) pP5 (by decide) (by decide)) qa117 qc117 (g := (mkF m 198 #[.val (.int p0), .val (.int p1), .val (.int p2), .val (.int p3), .val (.int p4), .val (.int p5), .val (.int r_1), .val (.int r_2), .val (.int r_3), .val (.int r_4), .val (.int (4 : Int32)), .val (.ref b5), .val (.ref b13), .val (.ref b25), .val (.ref b41), .val (.ref b41), .val (.ref b61), .val (.ref x_74), .val (.ref b_85), .val (.ref b_96)] [(.ref x_74), (.ref b61), (.int r_115)])) rfl (by rw [hml]; rfl) (Steps.refl _) (argsL := [(.ref x_74)]) (rest := [(.int r_115)]) (lenOf pd__Ljava_lang_Object__Z rfl) rfl (by show 2 * 0 + _ ≤ _; exact Nat.le_of_eq rfl) (hb hby at_198) (fun _ _ => ⟨rfl, eH115, (by decide : 14 + 0 ≤ _), (by decide : 65 + 0 ≤ _)⟩)
  dsimp only [Pt.U, Pt.locs, Pt.cells, Pt.slots] at X117 l117 y117 z117 st117 hQ117
  try dsimp only [Nat.reduceAdd] at y117 z117
  rw [l117, y117, z117] at X117
  obtain ⟨hcase117, rfl, eH117⟩ := hQ117
  have N117 := Fr.app N115 (Fr.nil n0)
  rcases q115_0 with hy | hy
  · skip
    have hv117 : _ = some (Value.int 1) := hcase117.elim (fun q => q.1) (fun q => absurd hy.2 q.2)
    subst hv117
    refine own_tr st117 ?_
    show own_Go p e below T117 (mkF m 201 #[.val (.int p0), .val (.int p1), .val (.int p2), .val (.int p3), .val (.int p4), .val (.int p5), .val (.int r_1), .val (.int r_2), .val (.int r_3), .val (.int r_4), .val (.int (4 : Int32)), .val (.ref b5), .val (.ref b13), .val (.ref b25), .val (.ref b41), .val (.ref b41), .val (.ref b61), .val (.ref x_74), .val (.ref b_85), .val (.ref b_96)] [(.int (1 : Int32)), (.int r_115)]) _
    have hrr := hy.1
    refine own_st (fun t_ k_ => XS.icmpNo X117.here hx rfl (hb hby at_201) rfl (teq hrr).2 k_) ?_
    show own_Go p e below T117 (mkF m 204 #[.val (.int p0), .val (.int p1), .val (.int p2), .val (.int p3), .val (.int p4), .val (.int p5), .val (.int r_1), .val (.int r_2), .val (.int r_3), .val (.int r_4), .val (.int (4 : Int32)), .val (.ref b5), .val (.ref b13), .val (.ref b25), .val (.ref b41), .val (.ref b41), .val (.ref b61), .val (.ref x_74), .val (.ref b_85), .val (.ref b_96)] []) _
    refine own_st (fun t_ k_ => XS.iconst X117.here hx rfl (hb hby at_204) k_) ?_
    show own_Go p e below T117 (mkF m 205 #[.val (.int p0), .val (.int p1), .val (.int p2), .val (.int p3), .val (.int p4), .val (.int p5), .val (.int r_1), .val (.int r_2), .val (.int r_3), .val (.int r_4), .val (.int (4 : Int32)), .val (.ref b5), .val (.ref b13), .val (.ref b25), .val (.ref b41), .val (.ref b41), .val (.ref b61), .val (.ref x_74), .val (.ref b_85), .val (.ref b_96)] [(.int (1 : Int32))]) _
    refine own_st (fun t_ k_ => XS.goto X117.here hx rfl (pc0 := 205) (pc' := 209) rfl (hb hby at_205) (by decide) (by decide) k_) ?_
    show own_Go p e below T117 (mkF m 209 #[.val (.int p0), .val (.int p1), .val (.int p2), .val (.int p3), .val (.int p4), .val (.int p5), .val (.int r_1), .val (.int r_2), .val (.int r_3), .val (.int r_4), .val (.int (4 : Int32)), .val (.ref b5), .val (.ref b13), .val (.ref b25), .val (.ref b41), .val (.ref b41), .val (.ref b61), .val (.ref x_74), .val (.ref b_85), .val (.ref b_96)] [(.int (1 : Int32))]) _
    obtain ⟨fs, hr, hrun, hended, hRW⟩ := X117.leaveW hS (by rw [eH117]; exact hK96) (v := some (.int (1 : Int32))) (fun h => by rw [Bd.returns] at h; cases h)
    have hCend : CHr Z own_EL s.vm s.heap T117.vm T117.heap := by
      rw [hh, eH117]
      exact CHr.trans CR97 (CHv.at X117 hZ hEL CH97)
    refine own_fin (retN X117 hx (t := .boolean) Bd.returns (by simp) (hb hby at_209) hr) ⟨hrun, hended, _, _, rfl, ?_, hCend, hRW.1, hRW.2.1, hRW.2.2.1, hRW.2.2.2.mono (by decide) (by decide)⟩
    show Q_rmLaw4 Z p0 p1 p2 p3 p4 p5 zc fm h0 n0 _ T117.heap _
    rw [eH117]
    exact ⟨rfl, N117, K98⟩
  · skip
    have hv117 : _ = some (Value.int 0) := hcase117.elim (fun q => absurd q.2 hy.2) (fun q => q.1)
    subst hv117
    refine own_tr st117 ?_
    show own_Go p e below T117 (mkF m 201 #[.val (.int p0), .val (.int p1), .val (.int p2), .val (.int p3), .val (.int p4), .val (.int p5), .val (.int r_1), .val (.int r_2), .val (.int r_3), .val (.int r_4), .val (.int (4 : Int32)), .val (.ref b5), .val (.ref b13), .val (.ref b25), .val (.ref b41), .val (.ref b41), .val (.ref b61), .val (.ref x_74), .val (.ref b_85), .val (.ref b_96)] [(.int (0 : Int32)), (.int r_115)]) _
    have hrr := hy.1
    refine own_st (fun t_ k_ => XS.icmpNo X117.here hx rfl (hb hby at_201) rfl (teq hrr).2 k_) ?_
    show own_Go p e below T117 (mkF m 204 #[.val (.int p0), .val (.int p1), .val (.int p2), .val (.int p3), .val (.int p4), .val (.int p5), .val (.int r_1), .val (.int r_2), .val (.int r_3), .val (.int r_4), .val (.int (4 : Int32)), .val (.ref b5), .val (.ref b13), .val (.ref b25), .val (.ref b41), .val (.ref b41), .val (.ref b61), .val (.ref x_74), .val (.ref b_85), .val (.ref b_96)] []) _
    refine own_st (fun t_ k_ => XS.iconst X117.here hx rfl (hb hby at_204) k_) ?_
    show own_Go p e below T117 (mkF m 205 #[.val (.int p0), .val (.int p1), .val (.int p2), .val (.int p3), .val (.int p4), .val (.int p5), .val (.int r_1), .val (.int r_2), .val (.int r_3), .val (.int r_4), .val (.int (4 : Int32)), .val (.ref b5), .val (.ref b13), .val (.ref b25), .val (.ref b41), .val (.ref b41), .val (.ref b61), .val (.ref x_74), .val (.ref b_85), .val (.ref b_96)] [(.int (1 : Int32))]) _
    refine own_st (fun t_ k_ => XS.goto X117.here hx rfl (pc0 := 205) (pc' := 209) rfl (hb hby at_205) (by decide) (by decide) k_) ?_
    show own_Go p e below T117 (mkF m 209 #[.val (.int p0), .val (.int p1), .val (.int p2), .val (.int p3), .val (.int p4), .val (.int p5), .val (.int r_1), .val (.int r_2), .val (.int r_3), .val (.int r_4), .val (.int (4 : Int32)), .val (.ref b5), .val (.ref b13), .val (.ref b25), .val (.ref b41), .val (.ref b41), .val (.ref b61), .val (.ref x_74), .val (.ref b_85), .val (.ref b_96)] [(.int (1 : Int32))]) _
    obtain ⟨fs, hr, hrun, hended, hRW⟩ := X117.leaveW hS (by rw [eH117]; exact hK96) (v := some (.int (1 : Int32))) (fun h => by rw [Bd.returns] at h; cases h)
    have hCend : CHr Z own_EL s.vm s.heap T117.vm T117.heap := by
      rw [hh, eH117]
      exact CHr.trans CR97 (CHv.at X117 hZ hEL CH97)
    refine own_fin (retN X117 hx (t := .boolean) Bd.returns (by simp) (hb hby at_209) hr) ⟨hrun, hended, _, _, rfl, ?_, hCend, hRW.1, hRW.2.1, hRW.2.2.1, hRW.2.2.2.mono (by decide) (by decide)⟩
    show Q_rmLaw4 Z p0 p1 p2 p3 p4 p5 zc fm h0 n0 _ T117.heap _
    rw [eH117]
    exact ⟨rfl, N117, K98⟩
theorem own_pre (p4 : Int32) : (1 : Int32) + (p4 &&& (3 : Int32)) = (1 : Int32) ∨ (1 : Int32) + (p4 &&& (3 : Int32)) = (2 : Int32) ∨ (1 : Int32) + (p4 &&& (3 : Int32)) = (3 : Int32) ∨ (1 : Int32) + (p4 &&& (3 : Int32)) = (4 : Int32) := by
  have h := c_and p4 3 (by decide)
  have e3 : (3 : Int32).toInt = 3 := rfl
  rw [e3] at h
  have h4 : (p4 &&& 3).toInt = 0 ∨ (p4 &&& 3).toInt = 1 ∨ (p4 &&& 3).toInt = 2 ∨ (p4 &&& 3).toInt = 3 := by omega
  rcases h4 with q | q | q | q
  · rw [show p4 &&& (3 : Int32) = 0 from Int32.toInt_inj.mp q]; decide
  · rw [show p4 &&& (3 : Int32) = 1 from Int32.toInt_inj.mp q]; decide
  · rw [show p4 &&& (3 : Int32) = 2 from Int32.toInt_inj.mp q]; decide
  · rw [show p4 &&& (3 : Int32) = 3 from Int32.toInt_inj.mp q]; decide
theorem rmLaw (l : Launch) (Z : State) (a0 : Array Value) (hw : ∀ d ∈ tables_1, d.before a0 Z = true) (ws : List Jvm.Cond) (p0 p1 p2 p3 p4 p5 zc : Int32) (fm : Value) (h0 : Heap) (n0 : Nat) (Z0 : n0 ≤ h0.size) (S1 : Sta Z Z.heap "java/lang/String" "COMPACT_STRINGS" "Z" (.int zc)) (P5 : ¬ (zc = (0 : Int32))) (S2 : Sta Z Z.heap "jdk/internal/util/Preconditions" "SIOOBE_FORMATTER" "Ljava/util/function/BiFunction;" fm) (rf : fm.isRef = true) (O1 : Old Z n0 h0) :
    MetFree l x (head1 (Jvm.Cond.code x code maxLocals ret :: ws) room_1) (fun a U => a = #[(.int p0), (.int p1), (.int p2), (.int p3), (.int p4), (.int p5)] ∧ Z.Warmed39 U.vm ∧ U.heap = h0 ∧ CHv Z own_EL U.vm h0) (fun _ _ _ _ _ => True) (fun _ U o U' => ∃ v L, o = .returned v ∧ (v = some (.int (1 : Int32)) ∧ Fr n0 L ∧ Keep h0 U'.heap []) ∧ CHr Z own_EL U.vm U.heap U'.vm U'.heap ∧ ReturnedEndW U o U' L 32 1152) := by
  rcases own_pre p4 with q | q | q | q
  · exact rmLaw1 l Z a0 hw ws p0 p1 p2 p3 p4 p5 zc fm h0 n0 Z0 S1 P5 S2 rf O1 q
  · exact rmLaw2 l Z a0 hw ws p0 p1 p2 p3 p4 p5 zc fm h0 n0 Z0 S1 P5 S2 rf O1 q
  · exact rmLaw3 l Z a0 hw ws p0 p1 p2 p3 p4 p5 zc fm h0 n0 Z0 S1 P5 S2 rf O1 q
  · exact rmLaw4 l Z a0 hw ws p0 p1 p2 p3 p4 p5 zc fm h0 n0 Z0 S1 P5 S2 rf O1 q
set_option maxRecDepth 65536 in
set_option maxHeartbeats 40000000 in
theorem comes_1 {Post : Tables → Env → Array Value → State → Outcome → State → Prop} (hpost : ∀ tb e args s v u, (limb_1_1.after args s (.returned v) u = true ∧ limb_1_2.after args s (.returned v) u = true ∧ True) → ReturnedEndW s (.returned v) u (Jvm.fieldLocs frame_1_writes args s ++ Jvm.arrayLocs frame_1_arrays args s ++ Jvm.staticLocs frame_1_statics s) 32 1152 → Post tb e args s (.returned v) u) :
    ArmFor flags0 classFile x code maxLocals ret World_1 tables_1 room_1 Calls_1 rest_1 Pre_1 Post := by
  intro l hfl _ _ p e ha hc hk s m args below hf hA hF happ hP
  obtain ⟨hcalls, hrest, hpre⟩ := hP
  obtain ⟨-, -, -, hnamed, -, -, -, hat⟩ := (Spec.applies_iff hf).mp happ
  obtain ⟨hg, hn⟩ := and_e (Cond.before_iff.mp (show (Jvm.Cond.and given_1 narrow_1).before args s = true from hpre))
  obtain ⟨hc0, hg0⟩ := and_e hg
  obtain ⟨ga0, hg1⟩ := and_e hg0
  obtain ⟨ga1, hg2⟩ := and_e hg1
  obtain ⟨ga2, hg3⟩ := and_e hg2
  obtain ⟨ga3, hg4⟩ := and_e hg3
  obtain ⟨ga4, hg5⟩ := and_e hg4
  have ga5 := hg5
  obtain ⟨w0, w1, w2, w3, w4, w5, rfl⟩ : ∃ w0 w1 w2 w3 w4 w5 : Value, args = #[w0, w1, w2, w3, w4, w5] := by
    have hs : args.size = 6 := by simpa [Cond.value, given_1] using hc0
    obtain ⟨L⟩ := args
    match L, hs with
    | [w0, w1, w2, w3, w4, w5], _ => exact ⟨w0, w1, w2, w3, w4, w5, rfl⟩
  have hw := fun d (hd : d ∈ tables_1) => atoms_spec (ws := Jvm.Cond.code x code maxLocals ret :: tables_1) hat d (List.mem_cons_of_mem _ hd)
  have hfit : Fit s := fun {y c} hc i hi => by
    obtain ⟨ha, rfl⟩ := Array.getElem?_eq_some_iff.mp hc
    have q := List.all_eq_true.mp ((Array.all_eq_true_iff_forall_mem.mp hF) _ (Array.getElem_mem ha)) i (List.mem_range.mpr hi)
    simpa [Array.getElem?_eq_getElem hi] using q
  obtain ⟨hsets, hown0⟩ := atoms_of _ (rest_1_c_eq ▸ (show rest_1_c.before _ s = true from hrest))
  obtain ⟨i0, ei0⟩ := is_v ga0
  obtain rfl : w0 = (.int i0) := Option.some.inj ei0
  obtain ⟨i1, ei1⟩ := is_v ga1
  obtain rfl : w1 = (.int i1) := Option.some.inj ei1
  obtain ⟨i2, ei2⟩ := is_v ga2
  obtain rfl : w2 = (.int i2) := Option.some.inj ei2
  obtain ⟨i3, ei3⟩ := is_v ga3
  obtain rfl : w3 = (.int i3) := Option.some.inj ei3
  obtain ⟨i4, ei4⟩ := is_v ga4
  obtain rfl : w4 = (.int i4) := Option.some.inj ei4
  obtain ⟨i5, ei5⟩ := is_v ga5
  obtain rfl : w5 = (.int i5) := Option.some.inj ei5
  have n5 := not_v (Cond.before_iff.mp (hsets _ (List.mem_of_getElem? (i := 2) rfl)))
  obtain ⟨j1, e1⟩ := is_v (Cond.before_iff.mp (hsets _ (List.mem_of_getElem? (i := 1) rfl)))
  have S1 : Sta s s.heap "java/lang/String" "COMPACT_STRINGS" "Z" (.int j1) := Sta.start e1 (Or.inl (hsets _ (List.mem_of_getElem? (i := 0) rfl)))
  have c5 : ¬ (j1 = (0 : Int32)) := gotF (Cond.eq_ints e1 (Term.int_eval (0))) n5
  obtain ⟨v8, e8, r8⟩ := isR_v (Cond.before_iff.mp (hsets _ (List.mem_of_getElem? (i := 8) rfl)))
  have S2 : Sta s s.heap "jdk/internal/util/Preconditions" "SIOOBE_FORMATTER" "Ljava/util/function/BiFunction;" v8 := Sta.start e8 (Or.inl (hsets _ (List.mem_of_getElem? (i := 7) rfl)))
  obtain ⟨n, o, h1, h2, h3, _, L, rfl, ⟨rfl, N, -⟩, -, hq⟩ := rmLaw l s _ hw tables_1 i0 i1 i2 i3 i4 i5 j1 v8 s.heap s.heap.size (Nat.le_refl _) S1 c5 S2 r8 (Old.start s) p e ha hc hk s m _ below hf ((Spec.applies_iff_loose hf).mp happ).1 ⟨rfl, State.Warmed39.refl s, rfl, (fun p hp => nomatch hp)⟩ trivial
  refine ⟨n, _, h1, h2, h3, hpost _ _ _ _ _ _ ⟨Cond.after_iff.mpr rfl, Cond.after_iff.mpr (eq_i res_at (Term.int_eval (1)) rfl), trivial⟩ ⟨hq.1, hq.2.1, hq.2.2.1, (hq.2.2.2.sift fun y hy => Or.inr (N y hy)).mono (by decide) (by decide)⟩⟩
theorem main_1_1 : Claimed_1_1 := comes_1 fun _ _ _ _ _ _ h hF => ⟨h.1, hF⟩
theorem main_1_2 : Claimed_1_2 := comes_1 fun _ _ _ _ _ _ h hF => ⟨h.2.1, hF⟩
end Jvm.Pilot.@@N@@
namespace Jvm.Pilot.@@N@@
open Jvm Jvm.ClassFile Sem Op Lib Jvm.Free Jvm.Stand Jvm.Pilot.@@N@@.Jvm.D
/-! MADE BY PROGRAM (witnessworld.py) out of the Statement's table words and the real class files: 21 classes; the members and pool entries that the words name. The judged class is class 1, her method 2. -/
namespace start1
open Jvm.ClassFile
def u (s : String) : CpInfo := .utf8 (stringToUtf16 s)
/-- a pool by its gaps: so many unusable entries, then the entry; so many at the end -/
def gap : Nat → List CpInfo → List CpInfo
  | 0, r => r
  | n + 1, r => .unusable :: gap n r
def poolList (es : List (Nat × CpInfo)) (last : Nat) : List CpInfo := es.foldr (fun e r => gap e.1 (e.2 :: r)) (gap last [])
def pool (es : List (Nat × CpInfo)) (last : Nat) : Array CpInfo := ⟨poolList es last⟩
def fileOf (pool : Array CpInfo) (this : Nat) (attrs : Array Attribute := #[]) (ms : Array MethodInfo := #[]) (fl : Nat := 33) (sup : Nat := 0) (ifs : Array Nat := #[]) (fds : Array FieldInfo := #[]) : ClassFile where
  minorVersion := 0
  majorVersion := 65
  constantPool := pool
  accessFlags := fl
  thisClass := this
  superClass := sup
  interfaces := ifs
  fields := fds
  methods := ms
  attributes := attrs
def plain (name : String) (sup : Option ClassId) : Class where
  name := name
  kind := .ordinary
  loader := none
  accessFlags := 33
  super := sup
  interfaces := #[]
  cf := none
  fields := #[]
  methods := #[]
  instanceTypes := #[]
  staticTypes := #[]
  resolved := #[]
  callSites := []
  init := .initialized
  statics := none
  mirror := none

def pool0 : Array CpInfo := pool [(5, u "<init>"), (0, u "()V"), (1, .class_ 10), (1, u "java/lang/Object")] 113

def k0c0 : Code := { maxStack := 0, maxLocals := 1, code := object_method_1_code, exceptionTable := #[], attributes := #[] }
def k0m0 : Method := { name := "<init>", desc := "()V", sig := { parameters := [], returnType := none }, accessFlags := 1, code := some k0c0 }
/-- java/lang/Object -/
def k0 : Class := { plain "java/lang/Object" none with
  accessFlags := 33
  interfaces := #[]
  cf := some (fileOf pool0 8 #[] #[{ accessFlags := 1, nameIndex := 5, descriptorIndex := 6, attributes := #[] }] 33 0 #[] #[])
  fields := #[]
  methods := #[k0m0]
  instanceTypes := #[]
  staticTypes := #[]
  resolved := Array.replicate 124 none
  statics := none }

def pool1 : Array CpInfo := pool [(2, .class_ 4), (1, u "java/lang/Object"), (0, u "<init>"), (0, u "()V"), (0, .integer 2147483647), (0, .methodref 9 10), (0, .class_ 11), (0, .nameAndType 12 13), (0, u "com/example/faithful_courier/faithfulcourier/core/NameOfPinLaw"), (0, u "allowed"), (0, u "(I)C"), (0, .class_ 15), (0, u "java/lang/String"), (0, .methodref 14 17), (0, .nameAndType 5 18), (0, u "([C)V"), (0, .methodref 14 20), (0, .nameAndType 21 22), (0, u "valueOf"), (0, u "(C)Ljava/lang/String;"), (0, .methodref 24 25), (0, .class_ 26), (0, .nameAndType 27 28), (0, u "com/example/faithful_courier/faithfulcourier/core/Name"), (0, u "of"), (0, u "(Ljava/lang/String;)Lcom/example/faithful_courier/faithfulcourier/core/Name;"), (0, .methodref 24 30), (0, .nameAndType 31 32), (0, u "toString"), (0, u "()Ljava/lang/String;"), (0, .methodref 14 34), (0, .nameAndType 35 36), (0, u "equals"), (0, u "(Ljava/lang/Object;)Z"), (0, .methodref 24 34), (3, u "law"), (0, u "(IIIIII)Z")] 4

def k1m0 : Method := { name := "<init>", desc := "()V", sig := { parameters := [], returnType := none }, accessFlags := 1, code := none }
def k1c1 : Code := { maxStack := 3, maxLocals := 2, code := method_2_code, exceptionTable := #[], attributes := #[] }
def k1m1 : Method := { name := "allowed", desc := "(I)C", sig := { parameters := [.int], returnType := some .char }, accessFlags := 10, code := some k1c1 }
def k1c2 : Code := { maxStack := 4, maxLocals := 20, code := code, exceptionTable := #[], attributes := #[] }
def k1m2 : Method := { name := "law", desc := "(IIIIII)Z", sig := { parameters := [.int, .int, .int, .int, .int, .int], returnType := some .boolean }, accessFlags := 9, code := some k1c2 }
/-- com/example/faithful_courier/faithfulcourier/core/NameOfPinLaw -/
def k1 : Class := { plain "com/example/faithful_courier/faithfulcourier/core/NameOfPinLaw" (some 0) with
  accessFlags := 49
  interfaces := #[]
  cf := some (fileOf pool1 9 #[] #[{ accessFlags := 1, nameIndex := 5, descriptorIndex := 6, attributes := #[] }, { accessFlags := 10, nameIndex := 12, descriptorIndex := 13, attributes := #[] }, { accessFlags := 9, nameIndex := 41, descriptorIndex := 42, attributes := #[] }] 49 2 #[] #[])
  fields := #[]
  methods := #[k1m0, k1m1, k1m2]
  instanceTypes := #[]
  staticTypes := #[]
  resolved := Array.replicate 47 none
  statics := none }

def pool2 : Array CpInfo := pool [(1, .class_ 2), (0, u "java/io/Serializable"), (0, .class_ 4), (0, u "java/lang/Object")] 2

/-- java/io/Serializable -/
def k2 : Class := { plain "java/io/Serializable" (some 0) with
  accessFlags := 1537
  interfaces := #[]
  cf := some (fileOf pool2 1 #[] #[] 1537 3 #[] #[])
  fields := #[]
  methods := #[]
  instanceTypes := #[]
  staticTypes := #[]
  resolved := Array.replicate 7 none
  statics := none }

def pool3 : Array CpInfo := pool [(1, .class_ 2), (0, u "java/lang/Comparable"), (0, .class_ 4), (0, u "java/lang/Object")] 7

/-- java/lang/Comparable -/
def k3 : Class := { plain "java/lang/Comparable" (some 0) with
  accessFlags := 1537
  interfaces := #[]
  cf := some (fileOf pool3 1 #[] #[] 1537 3 #[] #[])
  fields := #[]
  methods := #[]
  instanceTypes := #[]
  staticTypes := #[]
  resolved := Array.replicate 12 none
  statics := none }

def pool4 : Array CpInfo := pool [(2, .class_ 4), (1, u "java/lang/CharSequence"), (42, .class_ 48), (0, u "java/lang/CharSequence$1CodePointIterator"), (10, .class_ 60), (0, u "java/lang/CharSequence$1CharIterator"), (5, .class_ 67), (0, u "java/lang/Object")] 63

/-- java/lang/CharSequence -/
def k4 : Class := { plain "java/lang/CharSequence" (some 0) with
  accessFlags := 1537
  interfaces := #[]
  cf := some (fileOf pool4 2 #[.nestMembers #[47, 59]] #[] 1537 66 #[] #[])
  fields := #[]
  methods := #[]
  instanceTypes := #[]
  staticTypes := #[]
  resolved := Array.replicate 131 none
  statics := none }

def pool5 : Array CpInfo := pool [(1, .class_ 2), (0, u "java/lang/constant/Constable"), (0, .class_ 4), (0, u "java/lang/Object")] 6

/-- java/lang/constant/Constable -/
def k5 : Class := { plain "java/lang/constant/Constable" (some 0) with
  accessFlags := 1537
  interfaces := #[]
  cf := some (fileOf pool5 1 #[] #[] 1537 3 #[] #[])
  fields := #[]
  methods := #[]
  instanceTypes := #[]
  staticTypes := #[]
  resolved := Array.replicate 11 none
  statics := none }

def pool6 : Array CpInfo := pool [(1, .class_ 2), (0, u "java/lang/constant/ConstantDesc"), (0, .class_ 4), (0, u "java/lang/Object")] 32

/-- java/lang/constant/ConstantDesc -/
def k6 : Class := { plain "java/lang/constant/ConstantDesc" (some 0) with
  accessFlags := 1537
  interfaces := #[]
  cf := some (fileOf pool6 1 #[] #[] 1537 3 #[] #[])
  fields := #[]
  methods := #[]
  instanceTypes := #[]
  staticTypes := #[]
  resolved := Array.replicate 37 none
  statics := none }

def pool7 : Array CpInfo := pool [(1, .methodref 2 3), (0, .class_ 4), (0, .nameAndType 5 6), (0, u "java/lang/Object"), (0, u "<init>"), (0, u "()V"), (2, .fieldref 10 11), (0, .class_ 12), (0, .nameAndType 13 14), (0, u "java/lang/String"), (0, u "value"), (0, u "[B"), (0, .fieldref 10 16), (0, .nameAndType 17 18), (0, u "coder"), (0, u "B"), (2, u "hash"), (0, u "I"), (2, u "hashIsZero"), (0, u "Z"), (0, .methodref 10 28), (0, .nameAndType 5 29), (0, u "([CIILjava/lang/Void;)V"), (8, .fieldref 10 39), (0, .nameAndType 40 26), (0, u "COMPACT_STRINGS"), (1, .class_ 44), (1, u "java/lang/StringUTF16"), (0, u "compress"), (1, .methodref 42 48), (0, .nameAndType 49 50), (0, u "coderFromArrayLen"), (0, u "([BI)B"), (2, u "toBytes"), (53, .class_ 109), (1, u "java/lang/StringLatin1"), (32, u "()Z"), (34, .methodref 42 178), (0, .nameAndType 45 179), (0, u "([CII)[B"), (29, .methodref 10 210), (0, .nameAndType 5 211), (0, u "([BB)V"), (122, u "()I"), (0, .methodref 10 336), (0, .nameAndType 17 337), (0, u "()B"), (25, u "([BI)C"), (5, u "(C)Z"), (21, u "(II)V"), (35, u "(I)C"), (64, .methodref 10 493), (0, .nameAndType 494 142), (0, u "isLatin1"), (0, .methodref 107 496), (0, .nameAndType 497 363), (0, u "charAt"), (3, u "checkIndex"), (5, u "length"), (33, .methodref 107 542), (0, .nameAndType 543 544), (0, u "equals"), (0, u "([B[B)Z"), (28, u "(Ljava/lang/Object;)Z"), (1, .class_ 576), (0, u "java/lang/CharSequence"), (22, u "CASE_INSENSITIVE_ORDER"), (0, u "Ljava/util/Comparator;"), (91, u "isEmpty"), (89, u "valueOf"), (0, u "(C)Ljava/lang/String;"), (226, u "([C)V"), (4, .methodref 107 1016), (0, .nameAndType 1017 369), (0, u "canEncode"), (0, .methodref 107 1019), (0, .nameAndType 53 1020), (0, u "(C)[B"), (32, .fieldref 1054 1055), (0, .class_ 1056), (0, .nameAndType 1057 1058), (0, u "jdk/internal/util/Preconditions"), (0, u "SIOOBE_FORMATTER"), (0, u "Ljava/util/function/BiFunction;"), (0, .methodref 1054 1060), (0, .nameAndType 501 1061), (0, u "(IILjava/util/function/BiFunction;)I"), (39, u "serialPersistentFields"), (0, u "[Ljava/io/ObjectStreamField;"), (0, .class_ 1104), (0, u "java/lang/String$CaseInsensitiveComparator"), (1, .class_ 1107), (0, u "java/io/Serializable"), (0, .class_ 1109), (0, u "java/lang/Comparable"), (0, .class_ 1111), (0, u "java/lang/constant/Constable"), (0, .class_ 1113), (0, u "java/lang/constant/ConstantDesc"), (2, u "serialVersionUID"), (0, u "J"), (3, u "REPL"), (0, u "C"), (2, u "LATIN1"), (1, u "UTF16")] 323

def k7m0 : Method := { name := "<init>", desc := "()V", sig := { parameters := [], returnType := none }, accessFlags := 1, code := none }
def k7c1 : Code := { maxStack := 5, maxLocals := 2, code := jdk_42_method_3_code, exceptionTable := #[], attributes := #[] }
def k7m1 : Method := { name := "<init>", desc := "([C)V", sig := { parameters := [(.array .char)], returnType := none }, accessFlags := 1, code := some k7c1 }
def k7c2 : Code := { maxStack := 2, maxLocals := 1, code := jdk_42_method_54_code, exceptionTable := #[], attributes := #[] }
def k7m2 : Method := { name := "length", desc := "()I", sig := { parameters := [], returnType := some .int }, accessFlags := 1, code := some k7c2 }
def k7c3 : Code := { maxStack := 1, maxLocals := 1, code := jdk_42_method_55_code, exceptionTable := #[], attributes := #[] }
def k7m3 : Method := { name := "isEmpty", desc := "()Z", sig := { parameters := [], returnType := some .boolean }, accessFlags := 1, code := some k7c3 }
def k7c4 : Code := { maxStack := 2, maxLocals := 2, code := jdk_42_method_56_code, exceptionTable := #[], attributes := #[] }
def k7m4 : Method := { name := "charAt", desc := "(I)C", sig := { parameters := [.int], returnType := some .char }, accessFlags := 1, code := some k7c4 }
def k7c5 : Code := { maxStack := 2, maxLocals := 3, code := jdk_42_method_66_code, exceptionTable := #[], attributes := #[] }
def k7m5 : Method := { name := "equals", desc := "(Ljava/lang/Object;)Z", sig := { parameters := [(.object "java/lang/Object")], returnType := some .boolean }, accessFlags := 1, code := some k7c5 }
def k7c6 : Code := { maxStack := 4, maxLocals := 1, code := jdk_42_method_139_code, exceptionTable := #[], attributes := #[] }
def k7m6 : Method := { name := "valueOf", desc := "(C)Ljava/lang/String;", sig := { parameters := [.char], returnType := some (.object "java/lang/String") }, accessFlags := 9, code := some k7c6 }
def k7c7 : Code := { maxStack := 4, maxLocals := 6, code := jdk_42_method_149_code, exceptionTable := #[], attributes := #[] }
def k7m7 : Method := { name := "<init>", desc := "([CIILjava/lang/Void;)V", sig := { parameters := [(.array .char), .int, .int, (.object "java/lang/Void")], returnType := none }, accessFlags := 2, code := some k7c7 }
def k7c8 : Code := { maxStack := 2, maxLocals := 3, code := jdk_42_method_151_code, exceptionTable := #[], attributes := #[] }
def k7m8 : Method := { name := "<init>", desc := "([BB)V", sig := { parameters := [(.array .byte), .byte], returnType := none }, accessFlags := 0, code := some k7c8 }
def k7c9 : Code := { maxStack := 1, maxLocals := 1, code := jdk_42_method_152_code, exceptionTable := #[], attributes := #[] }
def k7m9 : Method := { name := "coder", desc := "()B", sig := { parameters := [], returnType := some .byte }, accessFlags := 0, code := some k7c9 }
def k7c10 : Code := { maxStack := 1, maxLocals := 1, code := jdk_42_method_154_code, exceptionTable := #[], attributes := #[] }
def k7m10 : Method := { name := "isLatin1", desc := "()Z", sig := { parameters := [], returnType := some .boolean }, accessFlags := 0, code := some k7c10 }
def k7c11 : Code := { maxStack := 3, maxLocals := 2, code := jdk_42_method_155_code, exceptionTable := #[], attributes := #[] }
def k7m11 : Method := { name := "checkIndex", desc := "(II)V", sig := { parameters := [.int, .int], returnType := none }, accessFlags := 8, code := some k7c11 }
/-- java/lang/String -/
def k7 : Class := { plain "java/lang/String" (some 0) with
  accessFlags := 49
  interfaces := #[2, 3, 4, 5, 6]
  cf := some (fileOf pool7 10 #[.nestMembers #[1103]] #[{ accessFlags := 1, nameIndex := 5, descriptorIndex := 6, attributes := #[] }, { accessFlags := 1, nameIndex := 5, descriptorIndex := 1010, attributes := #[] }, { accessFlags := 1, nameIndex := 507, descriptorIndex := 334, attributes := #[] }, { accessFlags := 1, nameIndex := 692, descriptorIndex := 142, attributes := #[] }, { accessFlags := 1, nameIndex := 497, descriptorIndex := 427, attributes := #[] }, { accessFlags := 1, nameIndex := 543, descriptorIndex := 573, attributes := #[] }, { accessFlags := 9, nameIndex := 782, descriptorIndex := 783, attributes := #[] }, { accessFlags := 2, nameIndex := 5, descriptorIndex := 29, attributes := #[] }, { accessFlags := 0, nameIndex := 5, descriptorIndex := 211, attributes := #[] }, { accessFlags := 0, nameIndex := 17, descriptorIndex := 337, attributes := #[] }, { accessFlags := 0, nameIndex := 494, descriptorIndex := 142, attributes := #[] }, { accessFlags := 8, nameIndex := 501, descriptorIndex := 391, attributes := #[] }] 49 2 #[1106, 1108, 575, 1110, 1112] #[{ accessFlags := 18, nameIndex := 13, descriptorIndex := 14, attributes := #[] }, { accessFlags := 18, nameIndex := 17, descriptorIndex := 18, attributes := #[] }, { accessFlags := 2, nameIndex := 21, descriptorIndex := 22, attributes := #[] }, { accessFlags := 2, nameIndex := 25, descriptorIndex := 26, attributes := #[] }, { accessFlags := 26, nameIndex := 1116, descriptorIndex := 1117, attributes := #[] }, { accessFlags := 24, nameIndex := 40, descriptorIndex := 26, attributes := #[] }, { accessFlags := 26, nameIndex := 1101, descriptorIndex := 1102, attributes := #[] }, { accessFlags := 26, nameIndex := 1121, descriptorIndex := 1122, attributes := #[] }, { accessFlags := 25, nameIndex := 599, descriptorIndex := 600, attributes := #[] }, { accessFlags := 24, nameIndex := 1125, descriptorIndex := 18, attributes := #[] }, { accessFlags := 24, nameIndex := 1127, descriptorIndex := 18, attributes := #[] }])
  fields := #[{ name := "value", type := (.array .byte), accessFlags := 18, slot := 0, constantValue := 0 }, { name := "coder", type := .byte, accessFlags := 18, slot := 1, constantValue := 0 }, { name := "hash", type := .int, accessFlags := 2, slot := 2, constantValue := 0 }, { name := "hashIsZero", type := .boolean, accessFlags := 2, slot := 3, constantValue := 0 }, { name := "serialVersionUID", type := .long, accessFlags := 26, slot := 0, constantValue := 0 }, { name := "COMPACT_STRINGS", type := .boolean, accessFlags := 24, slot := 1, constantValue := 0 }, { name := "serialPersistentFields", type := (.array (.object "java/io/ObjectStreamField")), accessFlags := 26, slot := 2, constantValue := 0 }, { name := "REPL", type := .char, accessFlags := 26, slot := 3, constantValue := 0 }, { name := "CASE_INSENSITIVE_ORDER", type := (.object "java/util/Comparator"), accessFlags := 25, slot := 4, constantValue := 0 }, { name := "LATIN1", type := .byte, accessFlags := 24, slot := 5, constantValue := 0 }, { name := "UTF16", type := .byte, accessFlags := 24, slot := 6, constantValue := 0 }]
  methods := #[k7m0, k7m1, k7m2, k7m3, k7m4, k7m5, k7m6, k7m7, k7m8, k7m9, k7m10, k7m11]
  instanceTypes := #[(.array .byte), .byte, .int, .boolean]
  staticTypes := #[.long, .boolean, (.array (.object "java/io/ObjectStreamField")), .char, (.object "java/util/Comparator"), .byte, .byte]
  resolved := Array.replicate 1451 none
  statics := some 0 }

def pool8 : Array CpInfo := pool [(6, .class_ 8), (1, u "java/lang/Object"), (0, u "<init>"), (0, u "()V"), (1, .class_ 14), (1, u "java/lang/StringUTF16"), (31, u "$assertionsDisabled"), (0, u "Z"), (13, u "HI_BYTE_SHIFT"), (0, u "I"), (2, u "LO_BYTE_SHIFT"), (49, .methodref 12 116), (0, .nameAndType 117 118), (0, u "compress"), (0, u "([CI[BII)I"), (3, u "([CII)[B"), (138, u "coderFromArrayLen"), (0, u "([BI)B"), (106, .class_ 371), (1, u "java/lang/StringUTF16$LinesSpliterator"), (58, u "MAX_LENGTH"), (196, .class_ 628), (0, u "java/lang/StringUTF16$CodePointsSpliterator"), (0, .class_ 630), (0, u "java/lang/StringUTF16$CharsSpliterator")] 4

def k8m0 : Method := { name := "<init>", desc := "()V", sig := { parameters := [], returnType := none }, accessFlags := 0, code := none }
def k8c1 : Code := { maxStack := 2, maxLocals := 2, code := jdk_52_method_15_code, exceptionTable := #[], attributes := #[] }
def k8m1 : Method := { name := "coderFromArrayLen", desc := "([BI)B", sig := { parameters := [(.array .byte), .int], returnType := some .byte }, accessFlags := 8, code := some k8c1 }
def k8c2 : Code := { maxStack := 5, maxLocals := 6, code := jdk_52_method_16_code, exceptionTable := #[], attributes := #[] }
def k8m2 : Method := { name := "compress", desc := "([CII)[B", sig := { parameters := [(.array .char), .int, .int], returnType := some (.array .byte) }, accessFlags := 9, code := some k8c2 }
def k8c3 : Code := { maxStack := 3, maxLocals := 7, code := jdk_52_method_21_code, exceptionTable := #[], attributes := #[] }
def k8m3 : Method := { name := "compress", desc := "([CI[BII)I", sig := { parameters := [(.array .char), .int, (.array .byte), .int, .int], returnType := some .int }, accessFlags := 9, code := some k8c3 }
/-- java/lang/StringUTF16 -/
def k8 : Class := { plain "java/lang/StringUTF16" (some 0) with
  accessFlags := 48
  interfaces := #[]
  cf := some (fileOf pool8 12 #[.nestMembers #[627, 629, 369]] #[{ accessFlags := 0, nameIndex := 9, descriptorIndex := 10, attributes := #[] }, { accessFlags := 8, nameIndex := 261, descriptorIndex := 262, attributes := #[] }, { accessFlags := 9, nameIndex := 117, descriptorIndex := 122, attributes := #[] }, { accessFlags := 9, nameIndex := 117, descriptorIndex := 118, attributes := #[] }] 48 6 #[] #[{ accessFlags := 26, nameIndex := 61, descriptorIndex := 62, attributes := #[] }, { accessFlags := 26, nameIndex := 65, descriptorIndex := 62, attributes := #[] }, { accessFlags := 24, nameIndex := 430, descriptorIndex := 62, attributes := #[] }, { accessFlags := 4120, nameIndex := 46, descriptorIndex := 47, attributes := #[] }])
  fields := #[{ name := "HI_BYTE_SHIFT", type := .int, accessFlags := 26, slot := 0, constantValue := 0 }, { name := "LO_BYTE_SHIFT", type := .int, accessFlags := 26, slot := 1, constantValue := 0 }, { name := "MAX_LENGTH", type := .int, accessFlags := 24, slot := 2, constantValue := 0 }, { name := "$assertionsDisabled", type := .boolean, accessFlags := 4120, slot := 3, constantValue := 0 }]
  methods := #[k8m0, k8m1, k8m2, k8m3]
  instanceTypes := #[]
  staticTypes := #[.int, .int, .int, .boolean]
  resolved := Array.replicate 635 none
  statics := none }

def pool9 : Array CpInfo := pool [(1, .class_ 2), (0, u "java/lang/String"), (1, .class_ 6), (1, u "java/lang/Object"), (0, u "<init>"), (0, u "()V"), (0, .methodref 1 10), (0, .nameAndType 11 12), (0, u "checkIndex"), (0, u "(II)V"), (1, .class_ 16), (1, u "java/lang/StringLatin1"), (36, u "([BI)C"), (36, u "canEncode"), (14, u "(C)Z"), (15, u "$assertionsDisabled"), (0, u "Z"), (98, .class_ 223), (1, u "java/lang/StringLatin1$LinesSpliterator"), (28, u "charAt"), (28, u "equals"), (0, u "([B[B)Z"), (97, u "toBytes"), (1, u "(C)[B"), (7, .class_ 391), (0, u "java/lang/StringLatin1$CharsSpliterator")] 3

def k9m0 : Method := { name := "<init>", desc := "()V", sig := { parameters := [], returnType := none }, accessFlags := 0, code := none }
def k9c1 : Code := { maxStack := 2, maxLocals := 2, code := jdk_43_method_2_code, exceptionTable := #[], attributes := #[] }
def k9m1 : Method := { name := "charAt", desc := "([BI)C", sig := { parameters := [(.array .byte), .int], returnType := some .char }, accessFlags := 9, code := some k9c1 }
def k9c2 : Code := { maxStack := 2, maxLocals := 1, code := jdk_43_method_3_code, exceptionTable := #[], attributes := #[] }
def k9m2 : Method := { name := "canEncode", desc := "(C)Z", sig := { parameters := [.char], returnType := some .boolean }, accessFlags := 9, code := some k9c2 }
def k9c3 : Code := { maxStack := 3, maxLocals := 3, code := jdk_43_method_13_code, exceptionTable := #[], attributes := #[] }
def k9m3 : Method := { name := "equals", desc := "([B[B)Z", sig := { parameters := [(.array .byte), (.array .byte)], returnType := some .boolean }, accessFlags := 9, code := some k9c3 }
def k9c4 : Code := { maxStack := 4, maxLocals := 1, code := jdk_43_method_46_code, exceptionTable := #[], attributes := #[] }
def k9m4 : Method := { name := "toBytes", desc := "(C)[B", sig := { parameters := [.char], returnType := some (.array .byte) }, accessFlags := 9, code := some k9c4 }
/-- java/lang/StringLatin1 -/
def k9 : Class := { plain "java/lang/StringLatin1" (some 0) with
  accessFlags := 48
  interfaces := #[]
  cf := some (fileOf pool9 14 #[.nestMembers #[390, 221]] #[{ accessFlags := 0, nameIndex := 7, descriptorIndex := 8, attributes := #[] }, { accessFlags := 9, nameIndex := 252, descriptorIndex := 53, attributes := #[] }, { accessFlags := 9, nameIndex := 90, descriptorIndex := 105, attributes := #[] }, { accessFlags := 9, nameIndex := 281, descriptorIndex := 282, attributes := #[] }, { accessFlags := 9, nameIndex := 380, descriptorIndex := 382, attributes := #[] }] 48 4 #[] #[{ accessFlags := 4120, nameIndex := 121, descriptorIndex := 122, attributes := #[] }])
  fields := #[{ name := "$assertionsDisabled", type := .boolean, accessFlags := 4120, slot := 0, constantValue := 0 }]
  methods := #[k9m0, k9m1, k9m2, k9m3, k9m4]
  instanceTypes := #[]
  staticTypes := #[.boolean]
  resolved := Array.replicate 395 none
  statics := none }

def pool10 : Array CpInfo := pool [(1, .methodref 2 3), (0, .class_ 4), (0, .nameAndType 5 6), (0, u "java/lang/Object"), (0, u "<init>"), (0, u "()V"), (0, .fieldref 8 9), (0, .class_ 10), (0, .nameAndType 11 12), (0, u "com/example/faithful_courier/faithfulcourier/core/Name"), (0, u "text"), (0, u "Ljava/lang/String;"), (0, .string 11), (0, .methodref 15 16), (0, .class_ 17), (0, .nameAndType 18 19), (0, u "java/util/Objects"), (0, u "requireNonNull"), (0, u "(Ljava/lang/Object;Ljava/lang/String;)Ljava/lang/Object;"), (0, .methodref 21 22), (0, .class_ 23), (0, .nameAndType 24 25), (0, u "java/lang/String"), (0, u "length"), (0, u "()I"), (0, .methodref 21 27), (0, .nameAndType 28 29), (0, u "charAt"), (0, u "(I)C"), (0, .methodref 8 31), (0, .nameAndType 32 33), (0, u "isAllowed"), (0, u "(C)Z"), (25, .nameAndType 5 60), (0, u "(Ljava/lang/String;)V"), (0, .methodref 21 62), (0, .nameAndType 63 64), (0, u "isEmpty"), (0, u "()Z"), (2, .methodref 8 59), (0, .methodref 21 69), (0, .nameAndType 70 71), (0, u "equals"), (0, u "(Ljava/lang/Object;)Z"), (3, u "MAX_LENGTH"), (0, u "I"), (4, u "of"), (0, u "(Ljava/lang/String;)Lcom/example/faithful_courier/faithfulcourier/core/Name;"), (1, u "toString"), (0, u "()Ljava/lang/String;")] 2

def k10c0 : Code := { maxStack := 2, maxLocals := 2, code := prog_2_method_1_code, exceptionTable := #[], attributes := #[] }
def k10m0 : Method := { name := "<init>", desc := "(Ljava/lang/String;)V", sig := { parameters := [(.object "java/lang/String")], returnType := none }, accessFlags := 2, code := some k10c0 }
def k10c1 : Code := { maxStack := 9, maxLocals := 2, code := prog_2_method_2_code, exceptionTable := #[], attributes := #[] }
def k10m1 : Method := { name := "of", desc := "(Ljava/lang/String;)Lcom/example/faithful_courier/faithfulcourier/core/Name;", sig := { parameters := [(.object "java/lang/String")], returnType := some (.object "com/example/faithful_courier/faithfulcourier/core/Name") }, accessFlags := 9, code := some k10c1 }
def k10c2 : Code := { maxStack := 2, maxLocals := 1, code := prog_2_method_3_code, exceptionTable := #[], attributes := #[] }
def k10m2 : Method := { name := "isAllowed", desc := "(C)Z", sig := { parameters := [.char], returnType := some .boolean }, accessFlags := 10, code := some k10c2 }
def k10c3 : Code := { maxStack := 2, maxLocals := 3, code := prog_2_method_4_code, exceptionTable := #[], attributes := #[] }
def k10m3 : Method := { name := "equals", desc := "(Ljava/lang/Object;)Z", sig := { parameters := [(.object "java/lang/Object")], returnType := some .boolean }, accessFlags := 1, code := some k10c3 }
def k10c4 : Code := { maxStack := 1, maxLocals := 1, code := prog_2_method_6_code, exceptionTable := #[], attributes := #[] }
def k10m4 : Method := { name := "toString", desc := "()Ljava/lang/String;", sig := { parameters := [], returnType := some (.object "java/lang/String") }, accessFlags := 1, code := some k10c4 }
/-- com/example/faithful_courier/faithfulcourier/core/Name -/
def k10 : Class := { plain "com/example/faithful_courier/faithfulcourier/core/Name" (some 0) with
  accessFlags := 49
  interfaces := #[]
  cf := some (fileOf pool10 8 #[] #[{ accessFlags := 2, nameIndex := 5, descriptorIndex := 60, attributes := #[] }, { accessFlags := 9, nameIndex := 81, descriptorIndex := 82, attributes := #[] }, { accessFlags := 10, nameIndex := 32, descriptorIndex := 33, attributes := #[] }, { accessFlags := 1, nameIndex := 70, descriptorIndex := 71, attributes := #[] }, { accessFlags := 1, nameIndex := 84, descriptorIndex := 85, attributes := #[] }] 49 2 #[] #[{ accessFlags := 25, nameIndex := 75, descriptorIndex := 76, attributes := #[] }, { accessFlags := 18, nameIndex := 11, descriptorIndex := 12, attributes := #[] }])
  fields := #[{ name := "MAX_LENGTH", type := .int, accessFlags := 25, slot := 0, constantValue := 0 }, { name := "text", type := (.object "java/lang/String"), accessFlags := 18, slot := 0, constantValue := 0 }]
  methods := #[k10m0, k10m1, k10m2, k10m3, k10m4]
  instanceTypes := #[(.object "java/lang/String")]
  staticTypes := #[.int]
  resolved := Array.replicate 88 none
  statics := none }

def pool11 : Array CpInfo := pool [(2, .class_ 4), (1, u "java/lang/Object"), (0, u "<init>"), (0, u "()V"), (35, .class_ 44), (1, u "java/util/Objects"), (0, u "requireNonNull"), (48, u "(Ljava/lang/Object;Ljava/lang/String;)Ljava/lang/Object;")] 89

def k11m0 : Method := { name := "<init>", desc := "()V", sig := { parameters := [], returnType := none }, accessFlags := 2, code := none }
def k11c1 : Code := { maxStack := 3, maxLocals := 2, code := jdk_31_method_11_code, exceptionTable := #[], attributes := #[] }
def k11m1 : Method := { name := "requireNonNull", desc := "(Ljava/lang/Object;Ljava/lang/String;)Ljava/lang/Object;", sig := { parameters := [(.object "java/lang/Object"), (.object "java/lang/String")], returnType := some (.object "java/lang/Object") }, accessFlags := 9, code := some k11c1 }
/-- java/util/Objects -/
def k11 : Class := { plain "java/util/Objects" (some 0) with
  accessFlags := 49
  interfaces := #[]
  cf := some (fileOf pool11 42 #[] #[{ accessFlags := 2, nameIndex := 5, descriptorIndex := 6, attributes := #[] }, { accessFlags := 9, nameIndex := 45, descriptorIndex := 94, attributes := #[] }] 49 2 #[] #[])
  fields := #[]
  methods := #[k11m0, k11m1]
  instanceTypes := #[]
  staticTypes := #[]
  resolved := Array.replicate 184 none
  statics := none }

def pool12 : Array CpInfo := pool [(2, .class_ 4), (1, u "java/lang/Object"), (0, u "<init>"), (0, u "()V"), (17, .class_ 26), (1, u "jdk/internal/util/Preconditions"), (6, u "checkIndex"), (21, .class_ 56), (0, u "jdk/internal/util/Preconditions$4"), (57, .class_ 115), (0, u "jdk/internal/util/Preconditions$1"), (7, u "SIOOBE_FORMATTER"), (0, u "Ljava/util/function/BiFunction;"), (0, .class_ 126), (0, u "jdk/internal/util/Preconditions$2"), (3, u "AIOOBE_FORMATTER"), (0, .class_ 132), (0, u "jdk/internal/util/Preconditions$3"), (3, u "IOOBE_FORMATTER"), (41, u "(IILjava/util/function/BiFunction;)I")] 15

def k12m0 : Method := { name := "<init>", desc := "()V", sig := { parameters := [], returnType := none }, accessFlags := 1, code := none }
def k12c1 : Code := { maxStack := 3, maxLocals := 3, code := jdk_41_method_11_code, exceptionTable := #[], attributes := #[] }
def k12m1 : Method := { name := "checkIndex", desc := "(IILjava/util/function/BiFunction;)I", sig := { parameters := [.int, .int, (.object "java/util/function/BiFunction")], returnType := some .int }, accessFlags := 9, code := some k12c1 }
/-- jdk/internal/util/Preconditions -/
def k12 : Class := { plain "jdk/internal/util/Preconditions" (some 0) with
  accessFlags := 33
  interfaces := #[]
  cf := some (fileOf pool12 24 #[.nestMembers #[55, 131, 125, 114]] #[{ accessFlags := 1, nameIndex := 5, descriptorIndex := 6, attributes := #[] }, { accessFlags := 9, nameIndex := 33, descriptorIndex := 178, attributes := #[] }] 33 2 #[] #[{ accessFlags := 25, nameIndex := 123, descriptorIndex := 124, attributes := #[] }, { accessFlags := 25, nameIndex := 130, descriptorIndex := 124, attributes := #[] }, { accessFlags := 25, nameIndex := 136, descriptorIndex := 124, attributes := #[] }])
  fields := #[{ name := "SIOOBE_FORMATTER", type := (.object "java/util/function/BiFunction"), accessFlags := 25, slot := 0, constantValue := 0 }, { name := "AIOOBE_FORMATTER", type := (.object "java/util/function/BiFunction"), accessFlags := 25, slot := 1, constantValue := 0 }, { name := "IOOBE_FORMATTER", type := (.object "java/util/function/BiFunction"), accessFlags := 25, slot := 2, constantValue := 0 }]
  methods := #[k12m0, k12m1]
  instanceTypes := #[]
  staticTypes := #[(.object "java/util/function/BiFunction"), (.object "java/util/function/BiFunction"), (.object "java/util/function/BiFunction")]
  resolved := Array.replicate 194 none
  statics := some 1 }

def pool13 : Array CpInfo := pool [(9, u "<init>"), (6, .class_ 18), (1, u "java/lang/Object"), (0, u "()V"), (1, .class_ 23), (1, u "jdk/internal/util/ArraysSupport"), (0, u "LOG2_ARRAY_LONG_INDEX_SCALE"), (0, u "I"), (2, u "U"), (0, u "Ljdk/internal/misc/Unsafe;"), (8, u "BIG_ENDIAN"), (0, u "Z"), (8, u "LOG2_BYTE_BIT_SIZE"), (4, u "LOG2_ARRAY_INT_INDEX_SCALE"), (54, u "JLA"), (0, u "Ljdk/internal/access/JavaLangAccess;"), (11, u "LOG2_ARRAY_BOOLEAN_INDEX_SCALE"), (9, u "LOG2_ARRAY_BYTE_INDEX_SCALE"), (5, u "LOG2_ARRAY_CHAR_INDEX_SCALE"), (5, u "LOG2_ARRAY_SHORT_INDEX_SCALE"), (18, u "LOG2_ARRAY_FLOAT_INDEX_SCALE"), (24, u "LOG2_ARRAY_DOUBLE_INDEX_SCALE"), (89, u "T_BOOLEAN"), (2, u "T_CHAR"), (1, u "T_FLOAT"), (1, u "T_DOUBLE"), (1, u "T_BYTE"), (1, u "T_SHORT"), (1, u "T_INT"), (1, u "T_LONG"), (1, u "SOFT_MAX_ARRAY_LENGTH")] 83

def k13m0 : Method := { name := "<init>", desc := "()V", sig := { parameters := [], returnType := none }, accessFlags := 2, code := none }
/-- jdk/internal/util/ArraysSupport -/
def k13 : Class := { plain "jdk/internal/util/ArraysSupport" (some 0) with
  accessFlags := 33
  interfaces := #[]
  cf := some (fileOf pool13 21 #[] #[{ accessFlags := 2, nameIndex := 9, descriptorIndex := 19, attributes := #[] }] 33 16 #[] #[{ accessFlags := 24, nameIndex := 28, descriptorIndex := 29, attributes := #[] }, { accessFlags := 26, nameIndex := 38, descriptorIndex := 39, attributes := #[] }, { accessFlags := 25, nameIndex := 121, descriptorIndex := 25, attributes := #[] }, { accessFlags := 25, nameIndex := 131, descriptorIndex := 25, attributes := #[] }, { accessFlags := 25, nameIndex := 137, descriptorIndex := 25, attributes := #[] }, { accessFlags := 25, nameIndex := 143, descriptorIndex := 25, attributes := #[] }, { accessFlags := 25, nameIndex := 53, descriptorIndex := 25, attributes := #[] }, { accessFlags := 25, nameIndex := 24, descriptorIndex := 25, attributes := #[] }, { accessFlags := 25, nameIndex := 162, descriptorIndex := 25, attributes := #[] }, { accessFlags := 25, nameIndex := 187, descriptorIndex := 25, attributes := #[] }, { accessFlags := 26, nameIndex := 48, descriptorIndex := 25, attributes := #[] }, { accessFlags := 25, nameIndex := 277, descriptorIndex := 25, attributes := #[] }, { accessFlags := 25, nameIndex := 280, descriptorIndex := 25, attributes := #[] }, { accessFlags := 25, nameIndex := 282, descriptorIndex := 25, attributes := #[] }, { accessFlags := 25, nameIndex := 284, descriptorIndex := 25, attributes := #[] }, { accessFlags := 25, nameIndex := 286, descriptorIndex := 25, attributes := #[] }, { accessFlags := 25, nameIndex := 288, descriptorIndex := 25, attributes := #[] }, { accessFlags := 25, nameIndex := 290, descriptorIndex := 25, attributes := #[] }, { accessFlags := 25, nameIndex := 292, descriptorIndex := 25, attributes := #[] }, { accessFlags := 26, nameIndex := 108, descriptorIndex := 109, attributes := #[] }, { accessFlags := 25, nameIndex := 294, descriptorIndex := 25, attributes := #[] }])
  fields := #[{ name := "U", type := (.object "jdk/internal/misc/Unsafe"), accessFlags := 24, slot := 0, constantValue := 0 }, { name := "BIG_ENDIAN", type := .boolean, accessFlags := 26, slot := 1, constantValue := 0 }, { name := "LOG2_ARRAY_BOOLEAN_INDEX_SCALE", type := .int, accessFlags := 25, slot := 2, constantValue := 0 }, { name := "LOG2_ARRAY_BYTE_INDEX_SCALE", type := .int, accessFlags := 25, slot := 3, constantValue := 0 }, { name := "LOG2_ARRAY_CHAR_INDEX_SCALE", type := .int, accessFlags := 25, slot := 4, constantValue := 0 }, { name := "LOG2_ARRAY_SHORT_INDEX_SCALE", type := .int, accessFlags := 25, slot := 5, constantValue := 0 }, { name := "LOG2_ARRAY_INT_INDEX_SCALE", type := .int, accessFlags := 25, slot := 6, constantValue := 0 }, { name := "LOG2_ARRAY_LONG_INDEX_SCALE", type := .int, accessFlags := 25, slot := 7, constantValue := 0 }, { name := "LOG2_ARRAY_FLOAT_INDEX_SCALE", type := .int, accessFlags := 25, slot := 8, constantValue := 0 }, { name := "LOG2_ARRAY_DOUBLE_INDEX_SCALE", type := .int, accessFlags := 25, slot := 9, constantValue := 0 }, { name := "LOG2_BYTE_BIT_SIZE", type := .int, accessFlags := 26, slot := 10, constantValue := 0 }, { name := "T_BOOLEAN", type := .int, accessFlags := 25, slot := 11, constantValue := 0 }, { name := "T_CHAR", type := .int, accessFlags := 25, slot := 12, constantValue := 0 }, { name := "T_FLOAT", type := .int, accessFlags := 25, slot := 13, constantValue := 0 }, { name := "T_DOUBLE", type := .int, accessFlags := 25, slot := 14, constantValue := 0 }, { name := "T_BYTE", type := .int, accessFlags := 25, slot := 15, constantValue := 0 }, { name := "T_SHORT", type := .int, accessFlags := 25, slot := 16, constantValue := 0 }, { name := "T_INT", type := .int, accessFlags := 25, slot := 17, constantValue := 0 }, { name := "T_LONG", type := .int, accessFlags := 25, slot := 18, constantValue := 0 }, { name := "JLA", type := (.object "jdk/internal/access/JavaLangAccess"), accessFlags := 26, slot := 19, constantValue := 0 }, { name := "SOFT_MAX_ARRAY_LENGTH", type := .int, accessFlags := 25, slot := 20, constantValue := 0 }]
  methods := #[k13m0]
  instanceTypes := #[]
  staticTypes := #[(.object "jdk/internal/misc/Unsafe"), .boolean, .int, .int, .int, .int, .int, .int, .int, .int, .int, .int, .int, .int, .int, .int, .int, .int, .int, (.object "jdk/internal/access/JavaLangAccess"), .int]
  resolved := Array.replicate 378 none
  statics := none }

def pool14 : Array CpInfo := pool [(1, u "java/lang/Cloneable"), (0, .class_ 1), (0, u "java/lang/Object"), (0, .class_ 3)] 3

/-- java/lang/Cloneable -/
def k14 : Class := { plain "java/lang/Cloneable" (some 0) with
  accessFlags := 1537
  interfaces := #[]
  cf := some (fileOf pool14 2 #[] #[] 1537 4 #[] #[])
  fields := #[]
  methods := #[]
  instanceTypes := #[]
  staticTypes := #[]
  resolved := Array.replicate 8 none
  statics := none }

/-- the primitive byte -/
def k15 : Class := { plain "byte" none with kind := .primitive 'B', accessFlags := 0x411 }
/-- [B -/
def k16 : Class := { plain "[B" (some 0) with kind := .array 15 .byte, interfaces := #[14, 2], accessFlags := 1041 }

/-- the primitive char -/
def k17 : Class := { plain "char" none with kind := .primitive 'C', accessFlags := 0x411 }
/-- [C -/
def k18 : Class := { plain "[C" (some 0) with kind := .array 17 .char, interfaces := #[14, 2], accessFlags := 1041 }

/-- the primitive int -/
def k19 : Class := { plain "int" none with kind := .primitive 'I', accessFlags := 0x411 }
/-- [I -/
def k20 : Class := { plain "[I" (some 0) with kind := .array 19 .int, interfaces := #[14, 2], accessFlags := 1041 }

def heap : Heap := #[{ cls := 7, slots := #[.long 0, .int 1, .null, .int 0, .null, .int 0, .int 0], vm := .statics 7 },
  { cls := 12, slots := #[.null, .null, .null], vm := .statics 12 }]
def classes : Array Class := #[k0, k1, k2, k3, k4, k5, k6, k7, k8, k9, k10, k11, k12, k13, k14, k15, k16, k17, k18, k19, k20]
def interned : List (Array UInt16 × Addr) := []
def slotsUsed : Nat := 10
def theMethod : MethodId := ⟨1, 2⟩
def args0 : Array Value := #[.int 5, .int 6, .int 7, .int 8, .int 9, .int 10]
def aboutOver (below : List Frame) : State where
  vm := { classes := classes, interned := interned.toArray }
  heap := heap
  slotsUsed := slotsUsed
  threads := #[{ frames := .invoking theMethod args0 :: below }]
def below0 : List Frame := [.native { method := ⟨0, 0⟩, args := #[] }]
def about1 : State := aboutOver below0
def p0 : Program := .bare "" "" ""
def e0 : Env := launch0.env 0 0 0
theorem w_frames : about1.frames = Frame.invoking theMethod args0 :: below0 := rfl
set_option maxRecDepth 65536 in
theorem w_args : argsFit about1.vm theMethod args0 = true := by decide +kernel
set_option maxRecDepth 65536 in
theorem w_heap : heapFits about1 = true := by decide +kernel
set_option maxRecDepth 65536 in
theorem w_runnable : about1.curStatus? = some .runnable := by decide +kernel
set_option maxRecDepth 65536 in
theorem w_alone : about1.alone = true := by decide +kernel
set_option maxRecDepth 65536 in
theorem w_named : about1.methodNamed? x = some theMethod := by decide +kernel
set_option maxRecDepth 65536 in
theorem w_hears : about1.hears theMethod below0 = true := by decide +kernel
set_option maxRecDepth 65536 in
theorem w_ripe : about1.ripe theMethod args0 below0 = true := by decide +kernel
theorem w_running : about1.status = .running := rfl
set_option maxRecDepth 65536 in
theorem w_room : about1.hasRoom e0.platform room_1 = true :=
  launch0.hasRoom_least _ room_1 (by decide +kernel) (by decide +kernel) (by decide +kernel) (by decide +kernel) (by decide +kernel) (by decide +kernel)
theorem allAtoms_all (ts : List Jvm.Cond) (a : Array Jvm.Value) (st : Jvm.State) : (allAtoms ts).before a st = ts.all (fun c => c.before a st) := by
  induction ts with
  | nil => rfl
  | cons c t ih =>
    show (Jvm.Cond.and c (allAtoms t)).before a st = _
    rw [Jvm.Cond.before_and, ih, List.all_cons]
def words1 : List Jvm.Cond := Jvm.Cond.code x code maxLocals ret :: tables_1
/-- a 'code' word, met by the world's own term for the bytes: nothing is compared byte by byte -/
theorem code_word {y : MethodName} {bytes : ByteArray} {mx : Nat} {rt : Option FieldType} {a : Array Value} {s : State} {m : MethodId} {meth : Method} {c : Code} (h1 : s.methodNamed? y = some m) (h2 : s.vm.method? m = some meth) (h3 : meth.code = some c) (h4 : c.code = bytes)
    (h5 : (c.maxLocals == mx && c.exceptionTable.isEmpty && decide (c.maxStack ≤ mostOperands) && decide (meth.sig.returnType = rt) && !meth.locks && decide (parseMethodDescriptor y.desc = some meth.sig)) = true) : (Jvm.Cond.code y bytes mx rt).before a s = true := by
  simp only [Bool.and_eq_true, beq_iff_eq, Bool.not_eq_true', decide_eq_true_eq] at h5
  obtain ⟨⟨⟨⟨⟨g1, g2⟩, g3⟩, g4⟩, g5⟩, g6⟩ := h5
  simp [Cond.before, Cond.holds, Cond.value, h1, h2, h3, h4, g1, g2, g3, g4, g5, g6]
def isCode : Jvm.Cond → Bool
  | .code _ _ _ _ => true
  | _ => false
theorem all_split {L : List Jvm.Cond} {P : Jvm.Cond → Bool} (h1 : L.all (fun c => isCode c || P c) = true) (h2 : ∀ c ∈ L.filter isCode, P c = true) : L.all P = true := by
  refine List.all_eq_true.mpr fun c hc => ?_
  have h := List.all_eq_true.mp h1 c hc
  rcases Bool.eq_false_or_eq_true (isCode c) with hi | hi
  · exact h2 c (List.mem_filter.mpr ⟨hc, hi⟩)
  · simpa [hi] using h
set_option maxRecDepth 65536 in
theorem w_c0 : (Jvm.Cond.code x code maxLocals ret).before args0 about1 = true := code_word (m := ⟨1, 2⟩) (meth := k1m2) (c := k1c2) (by decide +kernel) rfl rfl rfl (by decide +kernel)
set_option maxRecDepth 65536 in
theorem w_c1 : (Jvm.Cond.code ({ cls := "com/example/faithful_courier/faithfulcourier/core/NameOfPinLaw", name := "allowed", desc := "(I)C" } : Jvm.MethodName) method_2_code (2 : Nat) (Option.some Jvm.ClassFile.FieldType.char)).before args0 about1 = true := code_word (m := ⟨1, 1⟩) (meth := k1m1) (c := k1c1) (by decide +kernel) rfl rfl rfl (by decide +kernel)
set_option maxRecDepth 65536 in
theorem w_c2 : (Jvm.Cond.code ({ cls := "java/lang/String", name := "<init>", desc := "([C)V" } : Jvm.MethodName) jdk_42_method_3_code (2 : Nat) (Option.none : Option Jvm.ClassFile.FieldType)).before args0 about1 = true := code_word (m := ⟨7, 1⟩) (meth := k7m1) (c := k7c1) (by decide +kernel) rfl rfl rfl (by decide +kernel)
set_option maxRecDepth 65536 in
theorem w_c3 : (Jvm.Cond.code ({ cls := "java/lang/String", name := "<init>", desc := "([CIILjava/lang/Void;)V" } : Jvm.MethodName) jdk_42_method_149_code (6 : Nat) (Option.none : Option Jvm.ClassFile.FieldType)).before args0 about1 = true := code_word (m := ⟨7, 7⟩) (meth := k7m7) (c := k7c7) (by decide +kernel) rfl rfl rfl (by decide +kernel)
set_option maxRecDepth 65536 in
theorem w_c4 : (Jvm.Cond.code ({ cls := "java/lang/Object", name := "<init>", desc := "()V" } : Jvm.MethodName) object_method_1_code (1 : Nat) (Option.none : Option Jvm.ClassFile.FieldType)).before args0 about1 = true := code_word (m := ⟨0, 0⟩) (meth := k0m0) (c := k0c0) (by decide +kernel) rfl rfl rfl (by decide +kernel)
set_option maxRecDepth 65536 in
theorem w_c5 : (Jvm.Cond.code ({ cls := "java/lang/StringUTF16", name := "compress", desc := "([CII)[B" } : Jvm.MethodName) jdk_52_method_16_code (6 : Nat) (Option.some (Jvm.ClassFile.FieldType.array Jvm.ClassFile.FieldType.byte))).before args0 about1 = true := code_word (m := ⟨8, 2⟩) (meth := k8m2) (c := k8c2) (by decide +kernel) rfl rfl rfl (by decide +kernel)
set_option maxRecDepth 65536 in
theorem w_c6 : (Jvm.Cond.code ({ cls := "java/lang/StringUTF16", name := "compress", desc := "([CI[BII)I" } : Jvm.MethodName) jdk_52_method_21_code (7 : Nat) (Option.some Jvm.ClassFile.FieldType.int)).before args0 about1 = true := code_word (m := ⟨8, 3⟩) (meth := k8m3) (c := k8c3) (by decide +kernel) rfl rfl rfl (by decide +kernel)
set_option maxRecDepth 65536 in
theorem w_c7 : (Jvm.Cond.code ({ cls := "java/lang/StringUTF16", name := "coderFromArrayLen", desc := "([BI)B" } : Jvm.MethodName) jdk_52_method_15_code (2 : Nat) (Option.some Jvm.ClassFile.FieldType.byte)).before args0 about1 = true := code_word (m := ⟨8, 1⟩) (meth := k8m1) (c := k8c1) (by decide +kernel) rfl rfl rfl (by decide +kernel)
set_option maxRecDepth 65536 in
theorem w_c8 : (Jvm.Cond.code ({ cls := "java/lang/String", name := "valueOf", desc := "(C)Ljava/lang/String;" } : Jvm.MethodName) jdk_42_method_139_code (1 : Nat) (Option.some (Jvm.ClassFile.FieldType.object "java/lang/String"))).before args0 about1 = true := code_word (m := ⟨7, 6⟩) (meth := k7m6) (c := k7c6) (by decide +kernel) rfl rfl rfl (by decide +kernel)
set_option maxRecDepth 65536 in
theorem w_c9 : (Jvm.Cond.code ({ cls := "java/lang/StringLatin1", name := "canEncode", desc := "(C)Z" } : Jvm.MethodName) jdk_43_method_3_code (1 : Nat) (Option.some Jvm.ClassFile.FieldType.boolean)).before args0 about1 = true := code_word (m := ⟨9, 2⟩) (meth := k9m2) (c := k9c2) (by decide +kernel) rfl rfl rfl (by decide +kernel)
set_option maxRecDepth 65536 in
theorem w_c10 : (Jvm.Cond.code ({ cls := "java/lang/StringLatin1", name := "toBytes", desc := "(C)[B" } : Jvm.MethodName) jdk_43_method_46_code (1 : Nat) (Option.some (Jvm.ClassFile.FieldType.array Jvm.ClassFile.FieldType.byte))).before args0 about1 = true := code_word (m := ⟨9, 4⟩) (meth := k9m4) (c := k9c4) (by decide +kernel) rfl rfl rfl (by decide +kernel)
set_option maxRecDepth 65536 in
theorem w_c11 : (Jvm.Cond.code ({ cls := "java/lang/String", name := "<init>", desc := "([BB)V" } : Jvm.MethodName) jdk_42_method_151_code (3 : Nat) (Option.none : Option Jvm.ClassFile.FieldType)).before args0 about1 = true := code_word (m := ⟨7, 8⟩) (meth := k7m8) (c := k7c8) (by decide +kernel) rfl rfl rfl (by decide +kernel)
set_option maxRecDepth 65536 in
theorem w_c12 : (Jvm.Cond.code ({ cls := "com/example/faithful_courier/faithfulcourier/core/Name", name := "of", desc := "(Ljava/lang/String;)Lcom/example/faithful_courier/faithfulcourier/core/Name;" } : Jvm.MethodName) prog_2_method_2_code (2 : Nat) (Option.some (Jvm.ClassFile.FieldType.object "com/example/faithful_courier/faithfulcourier/core/Name"))).before args0 about1 = true := code_word (m := ⟨10, 1⟩) (meth := k10m1) (c := k10c1) (by decide +kernel) rfl rfl rfl (by decide +kernel)
set_option maxRecDepth 65536 in
theorem w_c13 : (Jvm.Cond.code ({ cls := "java/util/Objects", name := "requireNonNull", desc := "(Ljava/lang/Object;Ljava/lang/String;)Ljava/lang/Object;" } : Jvm.MethodName) jdk_31_method_11_code (2 : Nat) (Option.some (Jvm.ClassFile.FieldType.object "java/lang/Object"))).before args0 about1 = true := code_word (m := ⟨11, 1⟩) (meth := k11m1) (c := k11c1) (by decide +kernel) rfl rfl rfl (by decide +kernel)
set_option maxRecDepth 65536 in
theorem w_c14 : (Jvm.Cond.code ({ cls := "java/lang/String", name := "length", desc := "()I" } : Jvm.MethodName) jdk_42_method_54_code (1 : Nat) (Option.some Jvm.ClassFile.FieldType.int)).before args0 about1 = true := code_word (m := ⟨7, 2⟩) (meth := k7m2) (c := k7c2) (by decide +kernel) rfl rfl rfl (by decide +kernel)
set_option maxRecDepth 65536 in
theorem w_c15 : (Jvm.Cond.code ({ cls := "java/lang/String", name := "coder", desc := "()B" } : Jvm.MethodName) jdk_42_method_152_code (1 : Nat) (Option.some Jvm.ClassFile.FieldType.byte)).before args0 about1 = true := code_word (m := ⟨7, 9⟩) (meth := k7m9) (c := k7c9) (by decide +kernel) rfl rfl rfl (by decide +kernel)
set_option maxRecDepth 65536 in
theorem w_c16 : (Jvm.Cond.code ({ cls := "java/lang/String", name := "charAt", desc := "(I)C" } : Jvm.MethodName) jdk_42_method_56_code (2 : Nat) (Option.some Jvm.ClassFile.FieldType.char)).before args0 about1 = true := code_word (m := ⟨7, 4⟩) (meth := k7m4) (c := k7c4) (by decide +kernel) rfl rfl rfl (by decide +kernel)
set_option maxRecDepth 65536 in
theorem w_c17 : (Jvm.Cond.code ({ cls := "java/lang/String", name := "isLatin1", desc := "()Z" } : Jvm.MethodName) jdk_42_method_154_code (1 : Nat) (Option.some Jvm.ClassFile.FieldType.boolean)).before args0 about1 = true := code_word (m := ⟨7, 10⟩) (meth := k7m10) (c := k7c10) (by decide +kernel) rfl rfl rfl (by decide +kernel)
set_option maxRecDepth 65536 in
theorem w_c18 : (Jvm.Cond.code ({ cls := "java/lang/StringLatin1", name := "charAt", desc := "([BI)C" } : Jvm.MethodName) jdk_43_method_2_code (2 : Nat) (Option.some Jvm.ClassFile.FieldType.char)).before args0 about1 = true := code_word (m := ⟨9, 1⟩) (meth := k9m1) (c := k9c1) (by decide +kernel) rfl rfl rfl (by decide +kernel)
set_option maxRecDepth 65536 in
theorem w_c19 : (Jvm.Cond.code ({ cls := "java/lang/String", name := "checkIndex", desc := "(II)V" } : Jvm.MethodName) jdk_42_method_155_code (2 : Nat) (Option.none : Option Jvm.ClassFile.FieldType)).before args0 about1 = true := code_word (m := ⟨7, 11⟩) (meth := k7m11) (c := k7c11) (by decide +kernel) rfl rfl rfl (by decide +kernel)
set_option maxRecDepth 65536 in
theorem w_c20 : (Jvm.Cond.code ({ cls := "jdk/internal/util/Preconditions", name := "checkIndex", desc := "(IILjava/util/function/BiFunction;)I" } : Jvm.MethodName) jdk_41_method_11_code (3 : Nat) (Option.some Jvm.ClassFile.FieldType.int)).before args0 about1 = true := code_word (m := ⟨12, 1⟩) (meth := k12m1) (c := k12c1) (by decide +kernel) rfl rfl rfl (by decide +kernel)
set_option maxRecDepth 65536 in
theorem w_c21 : (Jvm.Cond.code ({ cls := "com/example/faithful_courier/faithfulcourier/core/Name", name := "isAllowed", desc := "(C)Z" } : Jvm.MethodName) prog_2_method_3_code (1 : Nat) (Option.some Jvm.ClassFile.FieldType.boolean)).before args0 about1 = true := code_word (m := ⟨10, 2⟩) (meth := k10m2) (c := k10c2) (by decide +kernel) rfl rfl rfl (by decide +kernel)
set_option maxRecDepth 65536 in
theorem w_c22 : (Jvm.Cond.code ({ cls := "java/lang/String", name := "isEmpty", desc := "()Z" } : Jvm.MethodName) jdk_42_method_55_code (1 : Nat) (Option.some Jvm.ClassFile.FieldType.boolean)).before args0 about1 = true := code_word (m := ⟨7, 3⟩) (meth := k7m3) (c := k7c3) (by decide +kernel) rfl rfl rfl (by decide +kernel)
set_option maxRecDepth 65536 in
theorem w_c23 : (Jvm.Cond.code ({ cls := "com/example/faithful_courier/faithfulcourier/core/Name", name := "<init>", desc := "(Ljava/lang/String;)V" } : Jvm.MethodName) prog_2_method_1_code (2 : Nat) (Option.none : Option Jvm.ClassFile.FieldType)).before args0 about1 = true := code_word (m := ⟨10, 0⟩) (meth := k10m0) (c := k10c0) (by decide +kernel) rfl rfl rfl (by decide +kernel)
set_option maxRecDepth 65536 in
theorem w_c24 : (Jvm.Cond.code ({ cls := "com/example/faithful_courier/faithfulcourier/core/Name", name := "toString", desc := "()Ljava/lang/String;" } : Jvm.MethodName) prog_2_method_6_code (1 : Nat) (Option.some (Jvm.ClassFile.FieldType.object "java/lang/String"))).before args0 about1 = true := code_word (m := ⟨10, 4⟩) (meth := k10m4) (c := k10c4) (by decide +kernel) rfl rfl rfl (by decide +kernel)
set_option maxRecDepth 65536 in
theorem w_c25 : (Jvm.Cond.code ({ cls := "java/lang/String", name := "equals", desc := "(Ljava/lang/Object;)Z" } : Jvm.MethodName) jdk_42_method_66_code (3 : Nat) (Option.some Jvm.ClassFile.FieldType.boolean)).before args0 about1 = true := code_word (m := ⟨7, 5⟩) (meth := k7m5) (c := k7c5) (by decide +kernel) rfl rfl rfl (by decide +kernel)
set_option maxRecDepth 65536 in
theorem w_c26 : (Jvm.Cond.code ({ cls := "com/example/faithful_courier/faithfulcourier/core/Name", name := "equals", desc := "(Ljava/lang/Object;)Z" } : Jvm.MethodName) prog_2_method_4_code (3 : Nat) (Option.some Jvm.ClassFile.FieldType.boolean)).before args0 about1 = true := code_word (m := ⟨10, 3⟩) (meth := k10m3) (c := k10c3) (by decide +kernel) rfl rfl rfl (by decide +kernel)
set_option maxRecDepth 65536 in
theorem w_c27 : (Jvm.Cond.code ({ cls := "java/lang/StringLatin1", name := "equals", desc := "([B[B)Z" } : Jvm.MethodName) jdk_43_method_13_code (3 : Nat) (Option.some Jvm.ClassFile.FieldType.boolean)).before args0 about1 = true := code_word (m := ⟨9, 3⟩) (meth := k9m3) (c := k9c3) (by decide +kernel) rfl rfl rfl (by decide +kernel)
def codes1 : List Jvm.Cond := [Jvm.Cond.code x code maxLocals ret, Jvm.Cond.code ({ cls := "com/example/faithful_courier/faithfulcourier/core/NameOfPinLaw", name := "allowed", desc := "(I)C" } : Jvm.MethodName) method_2_code (2 : Nat) (Option.some Jvm.ClassFile.FieldType.char), Jvm.Cond.code ({ cls := "java/lang/String", name := "<init>", desc := "([C)V" } : Jvm.MethodName) jdk_42_method_3_code (2 : Nat) (Option.none : Option Jvm.ClassFile.FieldType), Jvm.Cond.code ({ cls := "java/lang/String", name := "<init>", desc := "([CIILjava/lang/Void;)V" } : Jvm.MethodName) jdk_42_method_149_code (6 : Nat) (Option.none : Option Jvm.ClassFile.FieldType), Jvm.Cond.code ({ cls := "java/lang/Object", name := "<init>", desc := "()V" } : Jvm.MethodName) object_method_1_code (1 : Nat) (Option.none : Option Jvm.ClassFile.FieldType), Jvm.Cond.code ({ cls := "java/lang/StringUTF16", name := "compress", desc := "([CII)[B" } : Jvm.MethodName) jdk_52_method_16_code (6 : Nat) (Option.some (Jvm.ClassFile.FieldType.array Jvm.ClassFile.FieldType.byte)), Jvm.Cond.code ({ cls := "java/lang/StringUTF16", name := "compress", desc := "([CI[BII)I" } : Jvm.MethodName) jdk_52_method_21_code (7 : Nat) (Option.some Jvm.ClassFile.FieldType.int), Jvm.Cond.code ({ cls := "java/lang/StringUTF16", name := "coderFromArrayLen", desc := "([BI)B" } : Jvm.MethodName) jdk_52_method_15_code (2 : Nat) (Option.some Jvm.ClassFile.FieldType.byte), Jvm.Cond.code ({ cls := "java/lang/String", name := "valueOf", desc := "(C)Ljava/lang/String;" } : Jvm.MethodName) jdk_42_method_139_code (1 : Nat) (Option.some (Jvm.ClassFile.FieldType.object "java/lang/String")), Jvm.Cond.code ({ cls := "java/lang/StringLatin1", name := "canEncode", desc := "(C)Z" } : Jvm.MethodName) jdk_43_method_3_code (1 : Nat) (Option.some Jvm.ClassFile.FieldType.boolean), Jvm.Cond.code ({ cls := "java/lang/StringLatin1", name := "toBytes", desc := "(C)[B" } : Jvm.MethodName) jdk_43_method_46_code (1 : Nat) (Option.some (Jvm.ClassFile.FieldType.array Jvm.ClassFile.FieldType.byte)), Jvm.Cond.code ({ cls := "java/lang/String", name := "<init>", desc := "([BB)V" } : Jvm.MethodName) jdk_42_method_151_code (3 : Nat) (Option.none : Option Jvm.ClassFile.FieldType), Jvm.Cond.code ({ cls := "com/example/faithful_courier/faithfulcourier/core/Name", name := "of", desc := "(Ljava/lang/String;)Lcom/example/faithful_courier/faithfulcourier/core/Name;" } : Jvm.MethodName) prog_2_method_2_code (2 : Nat) (Option.some (Jvm.ClassFile.FieldType.object "com/example/faithful_courier/faithfulcourier/core/Name")), Jvm.Cond.code ({ cls := "java/util/Objects", name := "requireNonNull", desc := "(Ljava/lang/Object;Ljava/lang/String;)Ljava/lang/Object;" } : Jvm.MethodName) jdk_31_method_11_code (2 : Nat) (Option.some (Jvm.ClassFile.FieldType.object "java/lang/Object")), Jvm.Cond.code ({ cls := "java/lang/String", name := "length", desc := "()I" } : Jvm.MethodName) jdk_42_method_54_code (1 : Nat) (Option.some Jvm.ClassFile.FieldType.int), Jvm.Cond.code ({ cls := "java/lang/String", name := "coder", desc := "()B" } : Jvm.MethodName) jdk_42_method_152_code (1 : Nat) (Option.some Jvm.ClassFile.FieldType.byte), Jvm.Cond.code ({ cls := "java/lang/String", name := "charAt", desc := "(I)C" } : Jvm.MethodName) jdk_42_method_56_code (2 : Nat) (Option.some Jvm.ClassFile.FieldType.char), Jvm.Cond.code ({ cls := "java/lang/String", name := "isLatin1", desc := "()Z" } : Jvm.MethodName) jdk_42_method_154_code (1 : Nat) (Option.some Jvm.ClassFile.FieldType.boolean), Jvm.Cond.code ({ cls := "java/lang/StringLatin1", name := "charAt", desc := "([BI)C" } : Jvm.MethodName) jdk_43_method_2_code (2 : Nat) (Option.some Jvm.ClassFile.FieldType.char), Jvm.Cond.code ({ cls := "java/lang/String", name := "checkIndex", desc := "(II)V" } : Jvm.MethodName) jdk_42_method_155_code (2 : Nat) (Option.none : Option Jvm.ClassFile.FieldType), Jvm.Cond.code ({ cls := "jdk/internal/util/Preconditions", name := "checkIndex", desc := "(IILjava/util/function/BiFunction;)I" } : Jvm.MethodName) jdk_41_method_11_code (3 : Nat) (Option.some Jvm.ClassFile.FieldType.int), Jvm.Cond.code ({ cls := "com/example/faithful_courier/faithfulcourier/core/Name", name := "isAllowed", desc := "(C)Z" } : Jvm.MethodName) prog_2_method_3_code (1 : Nat) (Option.some Jvm.ClassFile.FieldType.boolean), Jvm.Cond.code ({ cls := "java/lang/String", name := "isEmpty", desc := "()Z" } : Jvm.MethodName) jdk_42_method_55_code (1 : Nat) (Option.some Jvm.ClassFile.FieldType.boolean), Jvm.Cond.code ({ cls := "com/example/faithful_courier/faithfulcourier/core/Name", name := "<init>", desc := "(Ljava/lang/String;)V" } : Jvm.MethodName) prog_2_method_1_code (2 : Nat) (Option.none : Option Jvm.ClassFile.FieldType), Jvm.Cond.code ({ cls := "com/example/faithful_courier/faithfulcourier/core/Name", name := "toString", desc := "()Ljava/lang/String;" } : Jvm.MethodName) prog_2_method_6_code (1 : Nat) (Option.some (Jvm.ClassFile.FieldType.object "java/lang/String")), Jvm.Cond.code ({ cls := "java/lang/String", name := "equals", desc := "(Ljava/lang/Object;)Z" } : Jvm.MethodName) jdk_42_method_66_code (3 : Nat) (Option.some Jvm.ClassFile.FieldType.boolean), Jvm.Cond.code ({ cls := "com/example/faithful_courier/faithfulcourier/core/Name", name := "equals", desc := "(Ljava/lang/Object;)Z" } : Jvm.MethodName) prog_2_method_4_code (3 : Nat) (Option.some Jvm.ClassFile.FieldType.boolean), Jvm.Cond.code ({ cls := "java/lang/StringLatin1", name := "equals", desc := "([B[B)Z" } : Jvm.MethodName) jdk_43_method_13_code (3 : Nat) (Option.some Jvm.ClassFile.FieldType.boolean)]
set_option maxRecDepth 65536 in
theorem codes_eq : words1.filter isCode = codes1 := rfl
theorem w_codes : ∀ c ∈ words1.filter isCode, c.before args0 about1 = true := by
  rw [codes_eq]
  intro c hc
  simp only [codes1, List.mem_cons, List.not_mem_nil, or_false] at hc
  rcases hc with rfl | rfl | rfl | rfl | rfl | rfl | rfl | rfl | rfl | rfl | rfl | rfl | rfl | rfl | rfl | rfl | rfl | rfl | rfl | rfl | rfl | rfl | rfl | rfl | rfl | rfl | rfl | rfl
  · exact w_c0
  · exact w_c1
  · exact w_c2
  · exact w_c3
  · exact w_c4
  · exact w_c5
  · exact w_c6
  · exact w_c7
  · exact w_c8
  · exact w_c9
  · exact w_c10
  · exact w_c11
  · exact w_c12
  · exact w_c13
  · exact w_c14
  · exact w_c15
  · exact w_c16
  · exact w_c17
  · exact w_c18
  · exact w_c19
  · exact w_c20
  · exact w_c21
  · exact w_c22
  · exact w_c23
  · exact w_c24
  · exact w_c25
  · exact w_c26
  · exact w_c27
set_option maxRecDepth 65536 in
theorem w_t1 : (words1.take 24).all (fun c => isCode c || c.before args0 about1) = true := by decide +kernel
set_option maxRecDepth 65536 in
theorem w_t2 : ((words1.drop 24).take 24).all (fun c => isCode c || c.before args0 about1) = true := by decide +kernel
set_option maxRecDepth 65536 in
theorem w_t3 : (((words1.drop 24).drop 24).take 24).all (fun c => isCode c || c.before args0 about1) = true := by decide +kernel
set_option maxRecDepth 65536 in
theorem w_t4 : ((((words1.drop 24).drop 24).drop 24).take 24).all (fun c => isCode c || c.before args0 about1) = true := by decide +kernel
set_option maxRecDepth 65536 in
theorem w_t5 : (((((words1.drop 24).drop 24).drop 24).drop 24).take 24).all (fun c => isCode c || c.before args0 about1) = true := by decide +kernel
set_option maxRecDepth 65536 in
theorem w_t6 : (((((words1.drop 24).drop 24).drop 24).drop 24).drop 24).all (fun c => isCode c || c.before args0 about1) = true := by decide +kernel
theorem w_tables : (allAtoms (Jvm.Cond.code x code maxLocals ret :: tables_1)).before args0 about1 = true := by
  rw [allAtoms_all]
  show words1.all (fun c => c.before args0 about1) = true
  refine all_split ?_ w_codes
  rw [← List.take_append_drop 24 words1, List.all_append, w_t1, ← List.take_append_drop 24 (words1.drop 24), List.all_append, w_t2, ← List.take_append_drop 24 ((words1.drop 24).drop 24), List.all_append, w_t3, ← List.take_append_drop 24 (((words1.drop 24).drop 24).drop 24), List.all_append, w_t4, ← List.take_append_drop 24 ((((words1.drop 24).drop 24).drop 24).drop 24), List.all_append, w_t5, w_t6]
  rfl
set_option maxRecDepth 65536 in
theorem w_rest : rest_1_c.before args0 about1 = true := by decide +kernel
set_option maxRecDepth 65536 in
theorem w_case : (Jvm.Cond.and given_1 narrow_1).before args0 about1 = true := by decide +kernel
theorem w_applies : (headSpec (Jvm.Cond.code x code maxLocals ret :: tables_1) room_1).applies x e0.platform about1 = true :=
  (Spec.applies_iff w_frames).mpr ⟨w_running, w_runnable, w_alone, w_named, w_hears, w_ripe, w_room, w_tables⟩
theorem atStart : AtStart classFile x code maxLocals ret World_1 tables_1 room_1 Calls_1 rest_1 Pre_1 launch0 p0 e0 about1 theMethod args0 below0 :=
  ⟨lists_1, trivial, launch0.admits_env _ _ _, launch0.least_env, fairChoices_fair.cas, fairChoices_fair.clock, w_frames, w_args, w_heap, w_applies, trivial, w_rest, w_case⟩
end start1
theorem witness_1 : WitnessClaimed_1 := ⟨start1.p0, start1.e0, start1.about1, start1.theMethod, start1.args0, start1.below0, start1.atStart⟩
end Jvm.Pilot.@@N@@
