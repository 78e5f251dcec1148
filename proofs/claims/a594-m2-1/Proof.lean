import JvmDerived
import JvmDerived.Pilot.@@N@@Statement
import JvmDerived.Pilot.@@N@@Code
set_option linter.unusedVariables false
set_option linter.unusedSimpArgs false
/- laws to paste: Road.backV (cut by pick.py; bodies as the Statement names them) -/
namespace Jvm.Pilot.@@N@@
namespace StrChars
open Jvm Sem ClassFile Op Lib Jvm.Stand Jvm.Free.XT Jvm.Free.ALB Jvm.Free.JM Jvm.Free
open Jvm.Lib.Cold (StaticIs)
/-- a char array whose places are chars -/
def Ch (a : Addr) (A : Cell) (U : State) : Prop := Arr .char a A U ∧ Typed .char A
theorem Ch.mv {a : Addr} {A : Cell} {U U' : State} (h : Ch a A U) (hal : U.vm.Alike U'.vm) (hh : U'.heap = U.heap) : Ch a A U' := ⟨h.1.mv hal hh, h.2⟩
theorem Ch.keep {a : Addr} {A : Cell} {U U' : State} (h : Ch a A U) (hal : U.vm.Alike U'.vm) (hk : U'.heap[a]? = some A) : Ch a A U' := ⟨h.1.keep hal hk, h.2⟩
/-- what place i of a char[]'s cell holds -/
def cv (A : Cell) (i : Nat) : Int32 := match A.slots[i]? with | some (.int x) => x | _ => 0
theorem Ch.get {a : Addr} {A : Cell} {U : State} (h : Ch a A U) {i : Nat} (hi : i < A.slots.size) : A.slots[i]? = some (.int (cv A i)) := by
  have e := Array.getElem?_eq_getElem hi
  have f := h.2 i _ e
  unfold cv; rw [e]
  generalize A.slots[i] = v at f
  cases v <;> simp [fits] at f ⊢
/-- the byte that i2b leaves of a char -/
def lo8 (x : Int32) : Int32 := x.toInt8.toInt32
theorem fits_lo8 (y : Int32) : fits .byte (.int (lo8 y)) = true := by
  have h1 := y.toInt8.le_toInt
  have h2 := y.toInt8.toInt_lt
  simp only [lo8, fits, Bool.and_eq_true, decide_eq_true_eq, Int32.le_iff_toInt_le, Int8.toInt_toInt32, show (-128 : Int32).toInt = -128 from by decide, show (127 : Int32).toInt = 127 from by decide]
  omega
/-- A' is A but that each place j of lo .. hi - 1 holds f j -/
def Laid (A A' : Cell) (lo hi : Nat) (f : Nat → Value) : Prop := A'.cls = A.cls ∧ A'.vm = A.vm ∧ A'.slots.size = A.slots.size ∧ ∀ i, A'.slots[i]? = if lo ≤ i ∧ i < hi then some (f i) else A.slots[i]?
theorem Laid.zero (A : Cell) (lo : Nat) (f : Nat → Value) : Laid A A lo (lo + 0) f := ⟨rfl, rfl, rfl, fun i => by rw [if_neg (by omega)]⟩
theorem Laid.step {A Ak : Cell} {lo k : Nat} {f : Nat → Value} {v : Value} (h : Laid A Ak lo k f) (hlo : lo ≤ k) (hk : k < Ak.slots.size) (hv : v = f k) : Laid A (Ak.setSlot k v) lo (k + 1) f := by
  refine ⟨h.1, h.2.1, by simpa [Cell.setSlot] using h.2.2.1, fun i => ?_⟩
  by_cases e : k = i
  · subst e; rw [Cell.slots_setSlot_self v hk, if_pos (by omega), hv]
  · rw [Cell.slots_setSlot_ne v e, h.2.2.2 i]
    by_cases q : lo ≤ i ∧ i < k
    · rw [if_pos q, if_pos (by omega)]
    · rw [if_neg q, if_neg (by omega)]
def U16 : String := "java/lang/StringUTF16"
namespace Cmp5
def yN : MethodName := ⟨"java/lang/StringUTF16", "compress", "([CI[BII)I"⟩
abbrev yB : ByteArray := jdk_52_method_21_code
theorem d0 : decode yB 0 = .ok (.iconst 0, 1) := by decide +kernel
theorem d1 : decode yB 1 = .ok (.istore 5, 2) := by decide +kernel
theorem d3 : decode yB 3 = .ok (.iload 5, 2) := by decide +kernel
theorem d5 : decode yB 5 = .ok (.iload 4, 2) := by decide +kernel
theorem d7 : decode yB 7 = .ok (.if_icmp (.ge) 37, 3) := by decide +kernel
theorem d10 : decode yB 10 = .ok (.aload_n 0, 1) := by decide +kernel
theorem d11 : decode yB 11 = .ok (.iload_n 1, 1) := by decide +kernel
theorem d12 : decode yB 12 = .ok (.caload, 1) := by decide +kernel
theorem d13 : decode yB 13 = .ok (.istore 6, 2) := by decide +kernel
theorem d15 : decode yB 15 = .ok (.iload 6, 2) := by decide +kernel
theorem d17 : decode yB 17 = .ok (.sipush 255, 3) := by decide +kernel
theorem d20 : decode yB 20 = .ok (.if_icmp (.le) 6, 3) := by decide +kernel
theorem d26 : decode yB 26 = .ok (.aload_n 2, 1) := by decide +kernel
theorem d27 : decode yB 27 = .ok (.iload_n 3, 1) := by decide +kernel
theorem d28 : decode yB 28 = .ok (.iload 6, 2) := by decide +kernel
theorem d30 : decode yB 30 = .ok (.i2b, 1) := by decide +kernel
theorem d31 : decode yB 31 = .ok (.bastore, 1) := by decide +kernel
theorem d32 : decode yB 32 = .ok (.iinc 1 1, 3) := by decide +kernel
theorem d35 : decode yB 35 = .ok (.iinc 3 1, 3) := by decide +kernel
theorem d38 : decode yB 38 = .ok (.iinc 5 1, 3) := by decide +kernel
theorem d41 : decode yB 41 = .ok (.goto (-38), 3) := by decide +kernel
theorem d44 : decode yB 44 = .ok (.iload 4, 2) := by decide +kernel
theorem d46 : decode yB 46 = .ok (.ireturn, 1) := by decide +kernel
def site : List Cond := []
def tab : Cond := tabOf yN yB 7 (some .int) site
def P (b : Addr) (A : Cell) (d : Addr) (B : Cell) (o q len : Nat) (args : Array Value) (s : State) : Prop := args = #[.ref b, .int (Int32.ofNat o), .ref d, .int (Int32.ofNat q), .int (Int32.ofNat len)] ∧ Ch b A s ∧ Arr .byte d B s ∧ b ≠ d ∧ o + len ≤ A.slots.size ∧ q + len ≤ B.slots.size ∧ ∀ i, i < len → ¬ 255 < cv A (o + i)
def E (b : Addr) (A : Cell) (d : Addr) (B : Cell) (o q len : Nat) (r : Option Value) (s u : State) : Prop := r = some (.int (Int32.ofNat len)) ∧ ∃ B', Put d B' s u ∧ Laid B B' q (q + len) (fun j => Value.int (lo8 (cv A (o + (j - q)))))
/-- no char of the range above 255: len; the places written hold each char's low byte -/
theorem law (l : Launch) (b : Addr) (A : Cell) (d : Addr) (B : Cell) (o q len : Nat) : Law l yN 5 5 0 0 yB 7 (some .int) site (P b A d B o q len) (E b A d B o q len) (copyLocs d q len) 0 0 := by
  refine Law.of_walk (plainFor_of_name (by decide +kernel)) (by decide +kernel) (by decide +kernel) (by decide) (fun _ _ h => by rw [h.1]; rfl) (fun _ U U' hal hh h => ⟨h.1, h.2.1.mv hal hh, h.2.2.1.mv hal hh, h.2.2.2⟩) (fun r U U' V V' h1 hal h2 h => ⟨h.1, h.2.elim fun B' q => ⟨B', q.1.mv h1 h2, q.2⟩⟩) ?_
  intro p e s m args below meth c s₁ X0 hexec hbytes hml hret hlk hnm hown hh0 W hP
  obtain ⟨rfl, hA, hB, hne, l1, l2, hp⟩ := hP
  have c1 : Steps p.tables e below (s₁.setTop (entryFrame m #[.ref b, .int (Int32.ofNat o), .ref d, .int (Int32.ofNat q), .int (Int32.ofNat len)] 7)) (s₁.setTop (mkF m 0 #[.val (.ref b), .val (.int (Int32.ofNat o)), .val (.ref d), .val (.int (Int32.ofNat q)), .val (.int (Int32.ofNat len)), .unset, .unset] [])) := entry rfl
  have hA0 := hA.1.mv X0.warmed.alike hh0
  have hB0 := hB.mv X0.warmed.alike hh0
  have a31 := hA.1.2.2.2
  have c2 : Steps p.tables e below (s₁.setTop (entryFrame m #[.ref b, .int (Int32.ofNat o), .ref d, .int (Int32.ofNat q), .int (Int32.ofNat len)] 7)) (s₁.setTop (mkF m 3 #[.val (.ref b), .val (.int (Int32.ofNat o)), .val (.ref d), .val (.int (Int32.ofNat q)), .val (.int (Int32.ofNat len)), .val (.int 0), .unset] [])) := c1.trans (by
    refine iconstV X0.here hexec rfl 0 (hb hbytes d0) (by decide) ?_
    refine XS.istore X0.here hexec rfl (hb hbytes d1) rfl rfl ?_
    exact Steps.refl _)
  have loop : ∀ (r i : Nat), i + r = len → ∀ (z : Slot), (z = .unset ∨ ∃ w, z = .val w ∧ w.category = 1) → ∀ (Tl : State) (Bk : Cell), Stand p l e { frames := 0, locals := 0, cells := 0, slots := 0 } s m #[.ref b, .int (Int32.ofNat o), .ref d, .int (Int32.ofNat q), .int (Int32.ofNat len)] below meth c Tl ([] ++ copyLocs d q i) 0 0 → Put d Bk s₁ Tl → Laid B Bk q (q + i) (fun j => Value.int (lo8 (cv A (o + (j - q))))) →
      Steps p.tables e below (s₁.setTop (entryFrame m #[.ref b, .int (Int32.ofNat o), .ref d, .int (Int32.ofNat q), .int (Int32.ofNat len)] 7)) (Tl.setTop (mkF m 3 #[.val (.ref b), .val (.int (Int32.ofNat (o + i))), .val (.ref d), .val (.int (Int32.ofNat (q + i))), .val (.int (Int32.ofNat len)), .val (.int (Int32.ofNat i)), z] [])) → ∃ (T' : State) (B' : Cell) (z' : Slot), Stand p l e { frames := 0, locals := 0, cells := 0, slots := 0 } s m #[.ref b, .int (Int32.ofNat o), .ref d, .int (Int32.ofNat q), .int (Int32.ofNat len)] below meth c T' ([] ++ copyLocs d q len) 0 0 ∧ Put d B' s₁ T' ∧ Laid B B' q (q + len) (fun j => Value.int (lo8 (cv A (o + (j - q))))) ∧
      Steps p.tables e below (s₁.setTop (entryFrame m #[.ref b, .int (Int32.ofNat o), .ref d, .int (Int32.ofNat q), .int (Int32.ofNat len)] 7)) (T'.setTop (mkF m 3 #[.val (.ref b), .val (.int (Int32.ofNat (o + len))), .val (.ref d), .val (.int (Int32.ofNat (q + len))), .val (.int (Int32.ofNat len)), .val (.int (Int32.ofNat len)), z'] [])) := by
    intro r
    induction r with
    | zero =>
      intro i hi z hz Tl Bk Xl pl fl cl
      have hil : i = len := by omega
      rw [hil] at Xl fl cl
      exact ⟨Tl, Bk, z, Xl, pl, fl, cl⟩
    | succ r ih =>
      intro i hi z hz Tl Bk Xl pl fl cl
      have all := X0.warmed.alike.symm.trans Xl.warmed.alike
      have hAl := hA0.keep all (pl.other hne hA0.1)
      have hBk := hB0.like all pl.1 fl.1 fl.2.1 fl.2.2.1
      have hlt : q + i < Bk.slots.size := by rw [fl.2.2.1]; omega
      have c3 : Steps p.tables e below (s₁.setTop (entryFrame m #[.ref b, .int (Int32.ofNat o), .ref d, .int (Int32.ofNat q), .int (Int32.ofNat len)] 7)) (Tl.setTop (mkF m 12 #[.val (.ref b), .val (.int (Int32.ofNat (o + i))), .val (.ref d), .val (.int (Int32.ofNat (q + i))), .val (.int (Int32.ofNat len)), .val (.int (Int32.ofNat i)), z] [.int (Int32.ofNat (o + i)), .ref b])) := cl.trans (by
        refine XS.iload Xl.here hexec rfl (hb hbytes d3) rfl ?_
        refine XS.iload Xl.here hexec rfl (hb hbytes d5) rfl ?_
        refine XS.icmpNo Xl.here hexec rfl (hb hbytes d7) rfl (ii_ge_f (lt32 (by omega) (by omega))) ?_
        refine XS.aloadN Xl.here hexec rfl (hb hbytes d10) rfl rfl ?_
        refine XS.iloadN Xl.here hexec rfl (hb hbytes d11) rfl ?_
        exact Steps.refl _)
      have c4 : Steps p.tables e below (s₁.setTop (entryFrame m #[.ref b, .int (Int32.ofNat o), .ref d, .int (Int32.ofNat q), .int (Int32.ofNat len)] 7)) (Tl.setTop (mkF m 13 #[.val (.ref b), .val (.int (Int32.ofNat (o + i))), .val (.ref d), .val (.int (Int32.ofNat (q + i))), .val (.int (Int32.ofNat len)), .val (.int (Int32.ofNat i)), z] [.int (cv A (o + i))])) := c3.trans (by
        refine Xl.aget hexec hAl rfl (hA.get (i := o + i) (by omega)) rfl rfl (hb hbytes d12) ?_
        exact Steps.refl _)
      have c5 : Steps p.tables e below (s₁.setTop (entryFrame m #[.ref b, .int (Int32.ofNat o), .ref d, .int (Int32.ofNat q), .int (Int32.ofNat len)] 7)) (Tl.setTop (mkF m 15 #[.val (.ref b), .val (.int (Int32.ofNat (o + i))), .val (.ref d), .val (.int (Int32.ofNat (q + i))), .val (.int (Int32.ofNat len)), .val (.int (Int32.ofNat i)), .val (.int (cv A (o + i)))] [])) := c4.trans (by
        refine XS.istoreS Xl.here hexec rfl (hb hbytes d13) rfl rfl hz ?_
        exact Steps.refl _)
      have c6 : Steps p.tables e below (s₁.setTop (entryFrame m #[.ref b, .int (Int32.ofNat o), .ref d, .int (Int32.ofNat q), .int (Int32.ofNat len)] 7)) (Tl.setTop (mkF m 31 #[.val (.ref b), .val (.int (Int32.ofNat (o + i))), .val (.ref d), .val (.int (Int32.ofNat (q + i))), .val (.int (Int32.ofNat len)), .val (.int (Int32.ofNat i)), .val (.int (cv A (o + i)))] [.int (lo8 (cv A (o + i))), .int (Int32.ofNat (q + i)), .ref d])) := c5.trans (by
        refine XS.iload Xl.here hexec rfl (hb hbytes d15) rfl ?_
        refine sipushV Xl.here hexec rfl 255 (hb hbytes d17) (by decide) ?_
        refine XS.icmpYes Xl.here hexec rfl (pc0 := 20) rfl (hb hbytes d20) rfl (ii_le_t (hp i (by omega))) (by decide) rfl ?_
        refine XS.aloadN Xl.here hexec rfl (hb hbytes d26) rfl rfl ?_
        refine XS.iloadN Xl.here hexec rfl (hb hbytes d27) rfl ?_
        refine XS.iload Xl.here hexec rfl (hb hbytes d28) rfl ?_
        refine i2b Xl.here hexec rfl (hb hbytes d30) rfl ?_
        exact Steps.refl _)
      obtain ⟨T7, X7, p7, st7⟩ := Xl.aput hexec hBk rfl hlt rfl (fits_lo8 (cv A (o + i))) (g := (mkF m 31 #[.val (.ref b), .val (.int (Int32.ofNat (o + i))), .val (.ref d), .val (.int (Int32.ofNat (q + i))), .val (.int (Int32.ofNat len)), .val (.int (Int32.ofNat i)), .val (.int (cv A (o + i)))] [.int (lo8 (cv A (o + i))), .int (Int32.ofNat (q + i)), .ref d])) rfl (rest := []) rfl (hb hbytes d31)
      have c8 : Steps p.tables e below (s₁.setTop (entryFrame m #[.ref b, .int (Int32.ofNat o), .ref d, .int (Int32.ofNat q), .int (Int32.ofNat len)] 7)) (T7.setTop (mkF m 32 #[.val (.ref b), .val (.int (Int32.ofNat (o + i))), .val (.ref d), .val (.int (Int32.ofNat (q + i))), .val (.int (Int32.ofNat len)), .val (.int (Int32.ofNat i)), .val (.int (cv A (o + i)))] [])) := c6.trans (st7 _ (Steps.refl _))
      have c9 : Steps p.tables e below (s₁.setTop (entryFrame m #[.ref b, .int (Int32.ofNat o), .ref d, .int (Int32.ofNat q), .int (Int32.ofNat len)] 7)) (T7.setTop (mkF m 3 #[.val (.ref b), .val (.int (Int32.ofNat (o + i) + 1)), .val (.ref d), .val (.int (Int32.ofNat (q + i) + 1)), .val (.int (Int32.ofNat len)), .val (.int (Int32.ofNat i + 1)), .val (.int (cv A (o + i)))] [])) := c8.trans (by
        refine iincV X7.here hexec rfl 1 (hb hbytes d32) (by decide) rfl rfl ?_
        refine iincV X7.here hexec rfl 1 (hb hbytes d35) (by decide) rfl rfl ?_
        refine iincV X7.here hexec rfl 1 (hb hbytes d38) (by decide) rfl rfl ?_
        refine XS.goto X7.here hexec rfl (pc0 := 41) rfl (hb hbytes d41) (by decide) rfl ?_
        exact Steps.refl _)
      have c10 : Steps p.tables e below (s₁.setTop (entryFrame m #[.ref b, .int (Int32.ofNat o), .ref d, .int (Int32.ofNat q), .int (Int32.ofNat len)] 7)) (T7.setTop (mkF m 3 #[.val (.ref b), .val (.int (Int32.ofNat (o + (i + 1)))), .val (.ref d), .val (.int (Int32.ofNat (q + (i + 1)))), .val (.int (Int32.ofNat len)), .val (.int (Int32.ofNat (i + 1))), .val (.int (cv A (o + i)))] [])) := by
        have := c9
        rw [succ32, succ32, succ32] at this
        exact this
      exact ih (i + 1) (by omega) _ (Or.inr ⟨_, rfl, rfl⟩) T7 _ (by rw [copyLocs_step, ← List.append_assoc]; exact X7) (pl.trans p7) (fl.step (by omega) hlt (by simp)) c10
  obtain ⟨T9, B9, z9, X9, p9, f9, g9⟩ := loop len 0 (by omega) .unset (Or.inl rfl) s₁ B (by simpa [copyLocs] using X0) ⟨hB0.1, fun _ _ => rfl, rfl⟩ (Laid.zero _ _ _) c2
  have c11 : Steps p.tables e below (s₁.setTop (entryFrame m #[.ref b, .int (Int32.ofNat o), .ref d, .int (Int32.ofNat q), .int (Int32.ofNat len)] 7)) (T9.setTop (mkF m 46 #[.val (.ref b), .val (.int (Int32.ofNat (o + len))), .val (.ref d), .val (.int (Int32.ofNat (q + len))), .val (.int (Int32.ofNat len)), .val (.int (Int32.ofNat len)), z9] [.int (Int32.ofNat len)])) := g9.trans (by
    refine XS.iload X9.here hexec rfl (hb hbytes d3) rfl ?_
    refine XS.iload X9.here hexec rfl (hb hbytes d5) rfl ?_
    refine XS.icmpYes X9.here hexec rfl (pc0 := 7) rfl (hb hbytes d7) rfl (ii_ge_t (nlt32 (by omega) (Nat.le_refl _))) (by decide) rfl ?_
    refine XS.iload X9.here hexec rfl (hb hbytes d44) rfl ?_
    exact Steps.refl _)
  exact ⟨T9, some (.int (Int32.ofNat len)), _, _, _, X9, by simp, rfl, rfl, (fun h => by cases h), ⟨rfl, B9, p9.from hh0, f9⟩, fun fs hl => c11.trans (X9.ireturnOut hexec hret rfl (Or.inl rfl) (hb hbytes d46) hl)⟩
end Cmp5
namespace Cmp3
def yN : MethodName := ⟨"java/lang/StringUTF16", "compress", "([CII)[B"⟩
abbrev yB : ByteArray := jdk_52_method_16_code
theorem d0 : decode yB 0 = .ok (.iload_n 2, 1) := by decide +kernel
theorem d1 : decode yB 1 = .ok (.newarray .byte, 2) := by decide +kernel
theorem d3 : decode yB 3 = .ok (.astore_n 3, 1) := by decide +kernel
theorem d4 : decode yB 4 = .ok (.aload_n 0, 1) := by decide +kernel
theorem d5 : decode yB 5 = .ok (.iload_n 1, 1) := by decide +kernel
theorem d6 : decode yB 6 = .ok (.aload_n 3, 1) := by decide +kernel
theorem d7 : decode yB 7 = .ok (.iconst 0, 1) := by decide +kernel
theorem d8 : decode yB 8 = .ok (.iload_n 2, 1) := by decide +kernel
theorem d9 : decode yB 9 = .ok (.invokestatic 115, 3) := by decide +kernel
theorem d12 : decode yB 12 = .ok (.istore 4, 2) := by decide +kernel
theorem d14 : decode yB 14 = .ok (.iload 4, 2) := by decide +kernel
theorem d16 : decode yB 16 = .ok (.iload_n 2, 1) := by decide +kernel
theorem d17 : decode yB 17 = .ok (.if_icmp (.eq) 40, 3) := by decide +kernel
theorem d57 : decode yB 57 = .ok (.aload_n 3, 1) := by decide +kernel
theorem d58 : decode yB 58 = .ok (.areturn, 1) := by decide +kernel
def site : List Cond := [.arrayClass .byte, Cmp5.tab] ++ staticW U16 115 Cmp5.yN
def tab : Cond := tabOf yN yB 6 (some (.array .byte)) site
def P (b : Addr) (A : Cell) (o len : Nat) (args : Array Value) (s : State) : Prop := args = #[.ref b, .int (Int32.ofNat o), .int (Int32.ofNat len)] ∧ Ch b A s ∧ o + len ≤ A.slots.size ∧ len ≤ 536870912 ∧ ∀ i, i < len → ¬ 255 < cv A (o + i)
def E (b : Addr) (A : Cell) (o len : Nat) (r : Option Value) (s u : State) : Prop := NewArr .byte "[B" len (fun j => .int (lo8 (cv A (o + j)))) r s u ∧ u.heap.size = s.heap.size + 1
/-- no char of the range above 255: a new byte[] of their low bytes -/
theorem law (l : Launch) (b : Addr) (A : Cell) (o len : Nat) : Law l yN 3 3 1 18 yB 6 (some (.array .byte)) site (P b A o len) (E b A o len) [] 1 len := by
  refine Law.of_walk (plainFor_of_name (by decide +kernel)) (by decide +kernel) (by decide +kernel) (by decide) (fun _ _ h => by rw [h.1]; rfl) (fun _ U U' hal hh h => ⟨h.1, h.2.1.mv hal hh, h.2.2⟩) (fun r U U' V V' h1 hal h2 h => ⟨NewArr.mv r U U' V V' h1 hal h2 h.1, by rw [h1, h2]; exact h.2⟩) ?_
  intro p e s m args below meth c s₁ X0 hexec hbytes hml hret hlk hnm hown hh0 W hP
  obtain ⟨rfl, hA, l1, l2, hp⟩ := hP
  have a31 := hA.1.2.2.2
  have c1 : Steps p.tables e below (s₁.setTop (entryFrame m #[.ref b, .int (Int32.ofNat o), .int (Int32.ofNat len)] 6)) (s₁.setTop (mkF m 0 #[.val (.ref b), .val (.int (Int32.ofNat o)), .val (.int (Int32.ofNat len)), .unset, .unset, .unset] [])) := entry rfl
  have c2 : Steps p.tables e below (s₁.setTop (entryFrame m #[.ref b, .int (Int32.ofNat o), .int (Int32.ofNat len)] 6)) (s₁.setTop (mkF m 1 #[.val (.ref b), .val (.int (Int32.ofNat o)), .val (.int (Int32.ofNat len)), .unset, .unset, .unset] [.int (Int32.ofNat len)])) := c1.trans (by
    refine XS.iloadN X0.here hexec rfl (hb hbytes d0) rfl ?_
    exact Steps.refl _)
  obtain ⟨T3, B3, X3, ba3, bs3, bv3, bh3, bf3, st3⟩ := X0.anew hexec (atype := .byte) (wk W (.arrayClass .byte)) rfl (by show len * 1 ≤ _; omega) (by omega) (g := (mkF m 1 #[.val (.ref b), .val (.int (Int32.ofNat o)), .val (.int (Int32.ofNat len)), .unset, .unset, .unset] [.int (Int32.ofNat len)])) rfl (hb hbytes d1) (rest := []) rfl (Nat.le_refl _) (by show 0 + len ≤ len; omega)
  rw [hh0] at ba3 st3
  have kp3 : XT.Kept s T3 := (XT.Kept.of_eq hh0).push bh3
  have hA3 := hA.keep X3.warmed.alike (kp3 _ _ hA.1.1)
  have hne : b ≠ s.heap.size := hA.1.ne
  have c4 : Steps p.tables e below (s₁.setTop (entryFrame m #[.ref b, .int (Int32.ofNat o), .int (Int32.ofNat len)] 6)) (T3.setTop (mkF m 3 #[.val (.ref b), .val (.int (Int32.ofNat o)), .val (.int (Int32.ofNat len)), .unset, .unset, .unset] [.ref s.heap.size])) := c2.trans (st3 _ (Steps.refl _))
  have c5 : Steps p.tables e below (s₁.setTop (entryFrame m #[.ref b, .int (Int32.ofNat o), .int (Int32.ofNat len)] 6)) (T3.setTop (mkF m 9 #[.val (.ref b), .val (.int (Int32.ofNat o)), .val (.int (Int32.ofNat len)), .val (.ref s.heap.size), .unset, .unset] [.int (Int32.ofNat len), .int 0, .ref s.heap.size, .int (Int32.ofNat o), .ref b])) := c4.trans (by
    refine XS.astoreN X3.here hexec rfl (hb hbytes d3) rfl rfl rfl ?_
    refine XS.aloadN X3.here hexec rfl (hb hbytes d4) rfl rfl ?_
    refine XS.iloadN X3.here hexec rfl (hb hbytes d5) rfl ?_
    refine XS.aloadN X3.here hexec rfl (hb hbytes d6) rfl rfl ?_
    refine iconstV X3.here hexec rfl 0 (hb hbytes d7) (by decide) ?_
    refine XS.iloadN X3.here hexec rfl (hb hbytes d8) rfl ?_
    exact Steps.refl _)
  obtain ⟨v6, T6, X6, E6, g6⟩ := X3.callS hexec (Cmp5.law l b A s.heap.size B3 o 0 len) hown (wks W (staticW U16 115 Cmp5.yN)) (wk W Cmp5.tab) (W := 0) (Nat.le_of_ble_eq_true rfl) (Nat.le_of_ble_eq_true rfl) (Nat.le_refl _) (by show 0 + len + 0 ≤ len; omega) (g := (mkF m 9 #[.val (.ref b), .val (.int (Int32.ofNat o)), .val (.int (Int32.ofNat len)), .val (.ref s.heap.size), .unset, .unset] [.int (Int32.ofNat len), .int (Int32.ofNat 0), .ref s.heap.size, .int (Int32.ofNat o), .ref b])) rfl (by rw [hml]; rfl) c5 (argsL := [.ref b, .int (Int32.ofNat o), .ref s.heap.size, .int (Int32.ofNat 0), .int (Int32.ofNat len)]) (rest := []) rfl rfl (by show 2 * 0 + 0 ≤ _; decide) (hb hbytes d9) (⟨rfl, hA3, ba3, hne, l1, by rw [bs3]; simp, hp⟩)
  obtain ⟨rfl, B6, p6, f6⟩ := E6
  have c7 : Steps p.tables e below (s₁.setTop (entryFrame m #[.ref b, .int (Int32.ofNat o), .int (Int32.ofNat len)] 6)) (T6.setTop (mkF m 12 #[.val (.ref b), .val (.int (Int32.ofNat o)), .val (.int (Int32.ofNat len)), .val (.ref s.heap.size), .unset, .unset] [.int (Int32.ofNat len)])) := g6
  have c8 : Steps p.tables e below (s₁.setTop (entryFrame m #[.ref b, .int (Int32.ofNat o), .int (Int32.ofNat len)] 6)) (T6.setTop (mkF m 58 #[.val (.ref b), .val (.int (Int32.ofNat o)), .val (.int (Int32.ofNat len)), .val (.ref s.heap.size), .val (.int (Int32.ofNat len)), .unset] [.ref s.heap.size])) := c7.trans (by
    refine XS.istore X6.here hexec rfl (hb hbytes d12) rfl rfl ?_
    refine XS.iload X6.here hexec rfl (hb hbytes d14) rfl ?_
    refine XS.iloadN X6.here hexec rfl (hb hbytes d16) rfl ?_
    refine XS.icmpYes X6.here hexec rfl (pc0 := 17) rfl (hb hbytes d17) rfl (ii_eq_t rfl) (by decide) rfl ?_
    refine XS.aloadN X6.here hexec rfl (hb hbytes d57) rfl rfl ?_
    exact Steps.refl _)
  have X8 := X6.wide (L' := []) (cells' := 1) (slots' := len) (fun x hx hlt => by
    simp only [List.nil_append, copyLocs, List.mem_map, List.mem_range] at hx
    obtain ⟨i, -, rfl⟩ := hx
    exact absurd hlt (Nat.lt_irrefl _)) (Nat.le_refl _) (by omega)
  exact ⟨T6, some (.ref s.heap.size), _, _, _, X8, rfl, rfl, rfl, (fun h => by cases h), ⟨⟨rfl, B6, ba3.like (X3.warmed.alike.symm.trans X6.warmed.alike) p6.1 f6.1 f6.2.1 f6.2.2.1, f6.2.1.trans bv3, by rw [X6.warmed.alike.findClass, f6.1]; exact bf3, by rw [f6.2.2.1, bs3]; simp, fun j hj => by rw [f6.2.2.2 j, if_pos (by omega)]; rfl, kp3.put p6 (Nat.le_refl _)⟩, by rw [p6.2.2, bh3, hh0]; simp⟩, fun fs hl => c8.trans (X8.areturnOut hexec rfl hret rfl (hb hbytes d58) hl)⟩
end Cmp3
namespace CodL
def yN : MethodName := ⟨"java/lang/StringUTF16", "coderFromArrayLen", "([BI)B"⟩
abbrev yB : ByteArray := jdk_52_method_15_code
theorem d0 : decode yB 0 = .ok (.iload_n 1, 1) := by decide +kernel
theorem d1 : decode yB 1 = .ok (.aload_n 0, 1) := by decide +kernel
theorem d2 : decode yB 2 = .ok (.arraylength, 1) := by decide +kernel
theorem d3 : decode yB 3 = .ok (.isub, 1) := by decide +kernel
theorem d4 : decode yB 4 = .ok (.bipush 31, 2) := by decide +kernel
theorem d6 : decode yB 6 = .ok (.iushr, 1) := by decide +kernel
theorem d7 : decode yB 7 = .ok (.i2b, 1) := by decide +kernel
theorem d8 : decode yB 8 = .ok (.ireturn, 1) := by decide +kernel
def site : List Cond := []
def tab : Cond := tabOf yN yB 2 (some .byte) site
def P (d : Addr) (B : Cell) (args : Array Value) (s : State) : Prop := args = #[.ref d, .int (Int32.ofNat B.slots.size)] ∧ Arr .byte d B s
def E (r : Option Value) (s u : State) : Prop := XT.PureE (some (.int 0)) r s u
/-- an array as long as the number of chars: LATIN1 -/
theorem law (l : Launch) (d : Addr) (B : Cell) : Law l yN 2 2 0 0 yB 2 (some .byte) site (P d B) E [] 0 0 := by
  refine Law.of_walk (plainFor_of_name (by decide +kernel)) (by decide +kernel) (by decide +kernel) (by decide) (fun _ _ h => by rw [h.1]; rfl) (fun _ U U' hal hh h => ⟨h.1, h.2.mv hal hh⟩) (fun r U U' V V' h1 hal h2 h => XT.PureE.mv r U U' V V' h1 hal h2 h) ?_
  intro p e s m args below meth c s₁ X0 hexec hbytes hml hret hlk hnm hown hh0 W hP
  obtain ⟨rfl, hB⟩ := hP
  have hB0 := hB.mv X0.warmed.alike hh0
  have c1 : Steps p.tables e below (s₁.setTop (entryFrame m #[.ref d, .int (Int32.ofNat B.slots.size)] 2)) (s₁.setTop (mkF m 0 #[.val (.ref d), .val (.int (Int32.ofNat B.slots.size))] [])) := entry rfl
  have c2 : Steps p.tables e below (s₁.setTop (entryFrame m #[.ref d, .int (Int32.ofNat B.slots.size)] 2)) (s₁.setTop (mkF m 2 #[.val (.ref d), .val (.int (Int32.ofNat B.slots.size))] [.ref d, .int (Int32.ofNat B.slots.size)])) := c1.trans (by
    refine XS.iloadN X0.here hexec rfl (hb hbytes d0) rfl ?_
    refine XS.aloadN X0.here hexec rfl (hb hbytes d1) rfl rfl ?_
    exact Steps.refl _)
  have c3 : Steps p.tables e below (s₁.setTop (entryFrame m #[.ref d, .int (Int32.ofNat B.slots.size)] 2)) (s₁.setTop (mkF m 8 #[.val (.ref d), .val (.int (Int32.ofNat B.slots.size))] [.int (lo8 (ushr (Int32.ofNat B.slots.size - Int32.ofNat B.slots.size) 31))])) := c2.trans (by
    refine X0.alen hexec hB0 rfl rfl (hb hbytes d2) ?_
    refine XS.isub X0.here hexec rfl (hb hbytes d3) rfl ?_
    refine bipushV X0.here hexec rfl 31 (hb hbytes d4) (by decide) ?_
    refine iushr X0.here hexec rfl (hb hbytes d6) rfl ?_
    refine i2b X0.here hexec rfl (hb hbytes d7) rfl ?_
    exact Steps.refl _)
  have e0 : lo8 (ushr (Int32.ofNat B.slots.size - Int32.ofNat B.slots.size) 31) = 0 := by rw [Int32.sub_self]; decide
  rw [e0] at c3
  exact ⟨s₁, some (.int 0), _, _, _, X0, rfl, rfl, rfl, (fun h => by cases h), ⟨rfl, hh0⟩, fun fs hl => c3.trans (X0.ireturnOut hexec hret rfl (Or.inr (Or.inr (Or.inl rfl))) (hb hbytes d8) hl)⟩
end CodL
/-- the String at a is Latin-1 over a new byte[] (the heap's one new cell): the low bytes of the len chars of A from o on; every cell but a is kept -/
def Got (a : Addr) (D : Cell) (fV fC : Field) (A : Cell) (o len : Nat) (r : Option Value) (s u : State) : Prop := r = none ∧ ∃ D' V : Cell, Blank "java/lang/String" a D' u ∧ Same D D' [fV.slot, fC.slot] ∧ D'.slots[fV.slot]? = some (.ref s.heap.size) ∧ D'.slots[fC.slot]? = some (.int 0) ∧ Arr .byte s.heap.size V u ∧ V.vm = .none ∧ u.vm.findClass "[B" = some V.cls ∧ V.slots.size = len ∧ (∀ j, j < len → V.slots[j]? = some (.int (lo8 (cv A (o + j))))) ∧ (∀ (y : Addr) (c : Cell), y ≠ a → s.heap[y]? = some c → u.heap[y]? = some c) ∧ u.heap.size = s.heap.size + 1
theorem Got.mv {a : Addr} {D A : Cell} {fV fC : Field} {o len : Nat} : ∀ r (U U' V V' : State), U'.heap = U.heap → V.vm.Alike V'.vm → V'.heap = V.heap → Got a D fV fC A o len r U V → Got a D fV fC A o len r U' V' :=
  fun r U U' V V' h1 hal h2 ⟨e0, D', X, a1, a2, a3, a4, a5, a6, a7, a8, a9, a10, a11⟩ => ⟨e0, D', X, a1.mv hal h2, a2, by rw [h1]; exact a3, a4, by rw [h1]; exact a5.mv hal h2, a6, by rw [hal.findClass]; exact a7, a8, a9, by rw [h1, h2]; exact a10, by rw [h1, h2]; exact a11⟩
namespace New4
def yN : MethodName := ⟨"java/lang/String", "<init>", "([CIILjava/lang/Void;)V"⟩
abbrev yB : ByteArray := jdk_42_method_149_code
theorem d0 : decode yB 0 = .ok (.aload_n 0, 1) := by decide +kernel
theorem d1 : decode yB 1 = .ok (.invokespecial 1, 3) := by decide +kernel
theorem d4 : decode yB 4 = .ok (.iload_n 3, 1) := by decide +kernel
theorem d5 : decode yB 5 = .ok (.ifCond (.ne) 22, 3) := by decide +kernel
theorem d27 : decode yB 27 = .ok (.getstatic 38, 3) := by decide +kernel
theorem d30 : decode yB 30 = .ok (.ifCond (.eq) 28, 3) := by decide +kernel
theorem d33 : decode yB 33 = .ok (.aload_n 1, 1) := by decide +kernel
theorem d34 : decode yB 34 = .ok (.iload_n 2, 1) := by decide +kernel
theorem d35 : decode yB 35 = .ok (.iload_n 3, 1) := by decide +kernel
theorem d36 : decode yB 36 = .ok (.invokestatic 177, 3) := by decide +kernel
theorem d39 : decode yB 39 = .ok (.astore 5, 2) := by decide +kernel
theorem d41 : decode yB 41 = .ok (.aload_n 0, 1) := by decide +kernel
theorem d42 : decode yB 42 = .ok (.aload 5, 2) := by decide +kernel
theorem d44 : decode yB 44 = .ok (.iload_n 3, 1) := by decide +kernel
theorem d45 : decode yB 45 = .ok (.invokestatic 47, 3) := by decide +kernel
theorem d48 : decode yB 48 = .ok (.putfield 15, 3) := by decide +kernel
theorem d51 : decode yB 51 = .ok (.aload_n 0, 1) := by decide +kernel
theorem d52 : decode yB 52 = .ok (.aload 5, 2) := by decide +kernel
theorem d54 : decode yB 54 = .ok (.putfield 9, 3) := by decide +kernel
theorem d57 : decode yB 57 = .ok (.return_, 1) := by decide +kernel
def site : List Cond := [.fieldLink "java/lang/String" 38 "java/lang/String" "COMPACT_STRINGS" "Z", Cmp3.tab, CodL.tab, .laysFinal "java/lang/String" "java/lang/String" "value" "[B", .fieldLink "java/lang/String" 9 "java/lang/String" "value" "[B", .laysFinal "java/lang/String" "java/lang/String" "coder" "B", .fieldLink "java/lang/String" 15 "java/lang/String" "coder" "B"] ++ objW "java/lang/String" 1 ++ staticW "java/lang/String" 177 Cmp3.yN ++ staticW "java/lang/String" 47 CodL.yN
def tab : Cond := tabOf yN yB 6 none site
def P (a : Addr) (D : Cell) (fV fC : Field) (b : Addr) (A : Cell) (z : Int32) (o len : Nat) (args : Array Value) (s : State) : Prop := args = #[.ref a, .ref b, .int (Int32.ofNat o), .int (Int32.ofNat len), .null] ∧ Blank "java/lang/String" a D s ∧ Found "java/lang/String" "value" "[B" fV s ∧ Found "java/lang/String" "coder" "B" fC s ∧ Ch b A s ∧ StaticIs s "java/lang/String" "COMPACT_STRINGS" "Z" (.int z) ∧ ¬ z = 0 ∧ 0 < len ∧ o + len ≤ A.slots.size ∧ len ≤ 536870912 ∧ ∀ i, i < len → ¬ 255 < cv A (o + i)
def E (a : Addr) (D : Cell) (fV fC : Field) (A : Cell) (o len : Nat) (r : Option Value) (s u : State) : Prop := Got a D fV fC A o len r s u
/-- len > 0, no char of the range above 255: a Latin-1 String of their low bytes -/
theorem law (l : Launch) (a : Addr) (D : Cell) (fV fC : Field) (b : Addr) (A : Cell) (z : Int32) (o len : Nat) : Law l yN 5 4 2 35 yB 6 none site (P a D fV fC b A z o len) (E a D fV fC A o len) [⟨a, fC.slot⟩, ⟨a, fV.slot⟩] 1 len := by
  refine Law.of_walk (plainFor_of_name (by decide +kernel)) (by decide +kernel) (by decide +kernel) (by decide) (fun _ _ h => by rw [h.1]; rfl) (fun _ U U' hal hh h => ⟨h.1, h.2.1.mv hal hh, h.2.2.1.al hal, h.2.2.2.1.al hal, h.2.2.2.2.1.mv hal hh, h.2.2.2.2.2.1.there hal hh, h.2.2.2.2.2.2⟩) (fun r U U' V V' h1 hal h2 h => Got.mv r U U' V V' h1 hal h2 h) ?_
  intro p e s m args below meth c s₁ X0 hexec hbytes hml hret hlk hnm hown hh0 W hP
  obtain ⟨rfl, hB, f1, f2, hA, s1, hz, l0, l1, l2, hp⟩ := hP
  have a31 := hA.1.2.2.2
  have c1 : Steps p.tables e below (s₁.setTop (entryFrame m #[.ref a, .ref b, .int (Int32.ofNat o), .int (Int32.ofNat len), .null] 6)) (s₁.setTop (mkF m 0 #[.val (.ref a), .val (.ref b), .val (.int (Int32.ofNat o)), .val (.int (Int32.ofNat len)), .val .null, .unset] [])) := entry rfl
  have c2 : Steps p.tables e below (s₁.setTop (entryFrame m #[.ref a, .ref b, .int (Int32.ofNat o), .int (Int32.ofNat len), .null] 6)) (s₁.setTop (mkF m 1 #[.val (.ref a), .val (.ref b), .val (.int (Int32.ofNat o)), .val (.int (Int32.ofNat len)), .val .null, .unset] [.ref a])) := c1.trans (by
    refine XS.aloadN X0.here hexec rfl (hb hbytes d0) rfl rfl ?_
    exact Steps.refl _)
  obtain ⟨T3, X3, q3, st3⟩ := X0.oinit hexec hown (wks W (objW "java/lang/String" 1)) (g := (mkF m 1 #[.val (.ref a), .val (.ref b), .val (.int (Int32.ofNat o)), .val (.int (Int32.ofNat len)), .val .null, .unset] [.ref a])) rfl (by rw [hml]; rfl) (rest := []) rfl (hb hbytes d1) (W := 0) (by show 2 * 0 + 0 ≤ _; decide) (Nat.le_of_ble_eq_true rfl) (Nat.le_of_ble_eq_true rfl)
  have hh3 := q3.trans hh0
  have c4 : Steps p.tables e below (s₁.setTop (entryFrame m #[.ref a, .ref b, .int (Int32.ofNat o), .int (Int32.ofNat len), .null] 6)) (T3.setTop (mkF m 27 #[.val (.ref a), .val (.ref b), .val (.int (Int32.ofNat o)), .val (.int (Int32.ofNat len)), .val .null, .unset] [])) := (c2.trans (st3 _ (Steps.refl _))).trans (by
    refine XS.iloadN X3.here hexec rfl (hb hbytes d4) rfl ?_
    refine XS.ifYes X3.here hexec rfl (pc0 := 5) rfl (hb hbytes d5) rfl (i0_ne_t (nz32 (by omega) l0)) (by decide) rfl ?_
    exact Steps.refl _)
  obtain ⟨T5, X5, q5, st5⟩ := X3.sget hexec hown (wk W (.fieldLink "java/lang/String" 38 "java/lang/String" "COMPACT_STRINGS" "Z")) s1 (fun _ _ h => by rw [hh3]; exact h) (g := (mkF m 27 #[.val (.ref a), .val (.ref b), .val (.int (Int32.ofNat o)), .val (.int (Int32.ofNat len)), .val .null, .unset] [])) rfl (hb hbytes d27)
  have hh5 := q5.trans hh3
  have c6 : Steps p.tables e below (s₁.setTop (entryFrame m #[.ref a, .ref b, .int (Int32.ofNat o), .int (Int32.ofNat len), .null] 6)) (T5.setTop (mkF m 30 #[.val (.ref a), .val (.ref b), .val (.int (Int32.ofNat o)), .val (.int (Int32.ofNat len)), .val .null, .unset] [.int z])) := c4.trans (st5 _ (Steps.refl _))
  have c7 : Steps p.tables e below (s₁.setTop (entryFrame m #[.ref a, .ref b, .int (Int32.ofNat o), .int (Int32.ofNat len), .null] 6)) (T5.setTop (mkF m 36 #[.val (.ref a), .val (.ref b), .val (.int (Int32.ofNat o)), .val (.int (Int32.ofNat len)), .val .null, .unset] [.int (Int32.ofNat len), .int (Int32.ofNat o), .ref b])) := c6.trans (by
    refine XS.ifNo X5.here hexec rfl (hb hbytes d30) rfl (i0_eq_f hz) ?_
    refine XS.aloadN X5.here hexec rfl (hb hbytes d33) rfl rfl ?_
    refine XS.iloadN X5.here hexec rfl (hb hbytes d34) rfl ?_
    refine XS.iloadN X5.here hexec rfl (hb hbytes d35) rfl ?_
    exact Steps.refl _)
  obtain ⟨v8, T8, X8, E8, g8⟩ := X5.callS hexec (Cmp3.law l b A o len) hown (wks W (staticW "java/lang/String" 177 Cmp3.yN)) (wk W Cmp3.tab) (W := 0) (Nat.le_of_ble_eq_true rfl) (Nat.le_of_ble_eq_true rfl) (Nat.le_refl _) (by show 0 + len ≤ len; omega) (g := (mkF m 36 #[.val (.ref a), .val (.ref b), .val (.int (Int32.ofNat o)), .val (.int (Int32.ofNat len)), .val .null, .unset] [.int (Int32.ofNat len), .int (Int32.ofNat o), .ref b])) rfl (by rw [hml]; rfl) c7 (argsL := [.ref b, .int (Int32.ofNat o), .int (Int32.ofNat len)]) (rest := []) rfl rfl (by show 2 * 0 + 0 ≤ _; decide) (hb hbytes d36) (⟨rfl, hA.mv X5.warmed.alike hh5, l1, l2, hp⟩)
  obtain ⟨e8, z8⟩ := E8
  obtain ⟨rfl, N, n1, n2, n3, n4, n5, n6⟩ := NewArr.mv _ T5 s _ _ hh5.symm (Vm.Alike.refl _) rfl e8
  rw [hh5] at z8
  have hB1 := hB.keep X8.warmed.alike (n6 _ _ hB.1)
  have hne : s.heap.size ≠ a := (Nat.ne_of_lt (Array.getElem?_eq_some_iff.mp hB.1).1).symm
  have c9 : Steps p.tables e below (s₁.setTop (entryFrame m #[.ref a, .ref b, .int (Int32.ofNat o), .int (Int32.ofNat len), .null] 6)) (T8.setTop (mkF m 39 #[.val (.ref a), .val (.ref b), .val (.int (Int32.ofNat o)), .val (.int (Int32.ofNat len)), .val .null, .unset] [.ref s.heap.size])) := g8
  have c10 : Steps p.tables e below (s₁.setTop (entryFrame m #[.ref a, .ref b, .int (Int32.ofNat o), .int (Int32.ofNat len), .null] 6)) (T8.setTop (mkF m 45 #[.val (.ref a), .val (.ref b), .val (.int (Int32.ofNat o)), .val (.int (Int32.ofNat len)), .val .null, .val (.ref s.heap.size)] [.int (Int32.ofNat N.slots.size), .ref s.heap.size, .ref a])) := by
    have hc : Steps p.tables e below (s₁.setTop (entryFrame m #[.ref a, .ref b, .int (Int32.ofNat o), .int (Int32.ofNat len), .null] 6)) (T8.setTop (mkF m 45 #[.val (.ref a), .val (.ref b), .val (.int (Int32.ofNat o)), .val (.int (Int32.ofNat len)), .val .null, .val (.ref s.heap.size)] [.int (Int32.ofNat len), .ref s.heap.size, .ref a])) := c9.trans (by
      refine XS.astore X8.here hexec rfl (hb hbytes d39) rfl rfl rfl ?_
      refine XS.aloadN X8.here hexec rfl (hb hbytes d41) rfl rfl ?_
      refine XS.aload X8.here hexec rfl (hb hbytes d42) rfl rfl ?_
      refine XS.iloadN X8.here hexec rfl (hb hbytes d44) rfl ?_
      exact Steps.refl _)
    rw [n4]; exact hc
  obtain ⟨v11, T11, X11, E11, g11⟩ := X8.callS hexec (CodL.law l s.heap.size N) hown (wks W (staticW "java/lang/String" 47 CodL.yN)) (wk W CodL.tab) (W := 1) (Nat.le_of_ble_eq_true rfl) (Nat.le_of_ble_eq_true rfl) (Nat.le_refl _) (by show 0 + len + 0 ≤ len; omega) (g := (mkF m 45 #[.val (.ref a), .val (.ref b), .val (.int (Int32.ofNat o)), .val (.int (Int32.ofNat len)), .val .null, .val (.ref s.heap.size)] [.int (Int32.ofNat N.slots.size), .ref s.heap.size, .ref a])) rfl (by rw [hml]; rfl) c10 (argsL := [.ref s.heap.size, .int (Int32.ofNat N.slots.size)]) (rest := [.ref a]) rfl rfl (by show 2 * 0 + (1 + 0) ≤ _; decide) (hb hbytes d45) (⟨rfl, n1⟩)
  obtain ⟨rfl, q11⟩ := E11
  have hB11 := hB1.mv (X8.warmed.alike.symm.trans X11.warmed.alike) q11
  have c12 : Steps p.tables e below (s₁.setTop (entryFrame m #[.ref a, .ref b, .int (Int32.ofNat o), .int (Int32.ofNat len), .null] 6)) (T11.setTop (mkF m 48 #[.val (.ref a), .val (.ref b), .val (.int (Int32.ofNat o)), .val (.int (Int32.ofNat len)), .val .null, .val (.ref s.heap.size)] [.int 0, .ref a])) := g11
  obtain ⟨T13, X13, p13, bl13, sl13, st13⟩ := X11.finit hexec hown (wk W (.fieldLink "java/lang/String" 15 "java/lang/String" "coder" "B")) (Or.inr ⟨_, (wk W (.laysFinal "java/lang/String" "java/lang/String" "coder" "B"))⟩) (Or.inl ⟨rfl, hnm⟩) f2 (Or.inl rfl) hB11 (t := .byte) (by decide +kernel) rfl (g := (mkF m 48 #[.val (.ref a), .val (.ref b), .val (.int (Int32.ofNat o)), .val (.int (Int32.ofNat len)), .val .null, .val (.ref s.heap.size)] [.int 0, .ref a])) rfl (rest := []) rfl (hb hbytes d48)
  have c14 : Steps p.tables e below (s₁.setTop (entryFrame m #[.ref a, .ref b, .int (Int32.ofNat o), .int (Int32.ofNat len), .null] 6)) (T13.setTop (mkF m 54 #[.val (.ref a), .val (.ref b), .val (.int (Int32.ofNat o)), .val (.int (Int32.ofNat len)), .val .null, .val (.ref s.heap.size)] [.ref s.heap.size, .ref a])) := (c12.trans (st13 _ (Steps.refl _))).trans (by
    refine XS.aloadN X13.here hexec rfl (hb hbytes d51) rfl rfl ?_
    refine XS.aload X13.here hexec rfl (hb hbytes d52) rfl rfl ?_
    exact Steps.refl _)
  obtain ⟨T15, X15, p15, bl15, sl15, st15⟩ := X13.finit hexec hown (wk W (.fieldLink "java/lang/String" 9 "java/lang/String" "value" "[B")) (Or.inr ⟨_, (wk W (.laysFinal "java/lang/String" "java/lang/String" "value" "[B"))⟩) (Or.inl ⟨rfl, hnm⟩) f1 (Or.inl rfl) bl13 (t := (.array .byte)) (by decide +kernel) rfl (g := (mkF m 54 #[.val (.ref a), .val (.ref b), .val (.int (Int32.ofNat o)), .val (.int (Int32.ofNat len)), .val .null, .val (.ref s.heap.size)] [.ref s.heap.size, .ref a])) rfl (rest := []) rfl (hb hbytes d54)
  have c16 : Steps p.tables e below (s₁.setTop (entryFrame m #[.ref a, .ref b, .int (Int32.ofNat o), .int (Int32.ofNat len), .null] 6)) (T15.setTop (mkF m 57 #[.val (.ref a), .val (.ref b), .val (.int (Int32.ofNat o)), .val (.int (Int32.ofNat len)), .val .null, .val (.ref s.heap.size)] [])) := c14.trans (st15 _ (Steps.refl _))
  have ap := apart (Or.inr ⟨_, (wk W (.laysFinal "java/lang/String" "java/lang/String" "value" "[B"))⟩) (Or.inr ⟨_, (wk W (.laysFinal "java/lang/String" "java/lang/String" "coder" "B"))⟩) f1 f2 (t₁ := .array .byte) (t₂ := .byte) (by decide +kernel) (by decide +kernel) (by decide)
  have al := X8.warmed.alike.symm.trans X15.warmed.alike
  have n7 : T11.heap[s.heap.size]? = some N := by rw [q11]; exact n1.1
  exact ⟨T15, none, _, _, _, X15, by simp, rfl, by omega, (fun _ => rfl), ⟨rfl, _, N, bl15, ((Same.refl D _).set _ (by simp)).set _ (by simp), sl15, (Cell.slots_setSlot_ne _ ap).trans sl13, n1.keep al (p15.other hne (p13.other hne n7)), n2, by rw [al.findClass]; exact n3, n4, n5, fun y c h1 h2 => p15.other h1 (p13.other h1 (by rw [q11]; exact n6 y c h2)), by rw [p15.2.2, p13.2.2, q11]; exact z8⟩, fun fs hl => c16.trans (X15.returnOut hexec hret (hb hbytes d57) hl)⟩
end New4
namespace New1
def yN : MethodName := ⟨"java/lang/String", "<init>", "([C)V"⟩
abbrev yB : ByteArray := jdk_42_method_3_code
theorem d0 : decode yB 0 = .ok (.aload_n 0, 1) := by decide +kernel
theorem d1 : decode yB 1 = .ok (.aload_n 1, 1) := by decide +kernel
theorem d2 : decode yB 2 = .ok (.iconst 0, 1) := by decide +kernel
theorem d3 : decode yB 3 = .ok (.aload_n 1, 1) := by decide +kernel
theorem d4 : decode yB 4 = .ok (.arraylength, 1) := by decide +kernel
theorem d5 : decode yB 5 = .ok (.aconst_null, 1) := by decide +kernel
theorem d6 : decode yB 6 = .ok (.invokespecial 27, 3) := by decide +kernel
theorem d9 : decode yB 9 = .ok (.return_, 1) := by decide +kernel
def site : List Cond := [New4.tab] ++ initW "java/lang/String" 27 New4.yN
def tab : Cond := tabOf yN yB 2 none site
def P (a : Addr) (D : Cell) (fV fC : Field) (b : Addr) (A : Cell) (z : Int32) (args : Array Value) (s : State) : Prop := args = #[.ref a, .ref b] ∧ Blank "java/lang/String" a D s ∧ Found "java/lang/String" "value" "[B" fV s ∧ Found "java/lang/String" "coder" "B" fC s ∧ Ch b A s ∧ StaticIs s "java/lang/String" "COMPACT_STRINGS" "Z" (.int z) ∧ ¬ z = 0 ∧ 0 < A.slots.size ∧ A.slots.size ≤ 536870912 ∧ ∀ i, i < A.slots.size → ¬ 255 < cv A i
def E (a : Addr) (D : Cell) (fV fC : Field) (A : Cell) (r : Option Value) (s u : State) : Prop := Got a D fV fC A 0 A.slots.size r s u
/-- new String(chars), not empty, no char above 255: a Latin-1 String of their low bytes -/
theorem law (l : Launch) (a : Addr) (D : Cell) (fV fC : Field) (b : Addr) (A : Cell) (z : Int32) : Law l yN 2 1 3 52 yB 2 none site (P a D fV fC b A z) (E a D fV fC A) [⟨a, fC.slot⟩, ⟨a, fV.slot⟩] 1 A.slots.size := by
  refine Law.of_walk (plainFor_of_name (by decide +kernel)) (by decide +kernel) (by decide +kernel) (by decide) (fun _ _ h => by rw [h.1]; rfl) (fun _ U U' hal hh h => ⟨h.1, h.2.1.mv hal hh, h.2.2.1.al hal, h.2.2.2.1.al hal, h.2.2.2.2.1.mv hal hh, h.2.2.2.2.2.1.there hal hh, h.2.2.2.2.2.2⟩) (fun r U U' V V' h1 hal h2 h => Got.mv r U U' V V' h1 hal h2 h) ?_
  intro p e s m args below meth c s₁ X0 hexec hbytes hml hret hlk hnm hown hh0 W hP
  obtain ⟨rfl, hB, f1, f2, hA, s1, hz, l0, l2, hp⟩ := hP
  have c1 : Steps p.tables e below (s₁.setTop (entryFrame m #[.ref a, .ref b] 2)) (s₁.setTop (mkF m 0 #[.val (.ref a), .val (.ref b)] [])) := entry rfl
  have c2 : Steps p.tables e below (s₁.setTop (entryFrame m #[.ref a, .ref b] 2)) (s₁.setTop (mkF m 6 #[.val (.ref a), .val (.ref b)] [.null, .int (Int32.ofNat A.slots.size), .int 0, .ref b, .ref a])) := c1.trans (by
    refine XS.aloadN X0.here hexec rfl (hb hbytes d0) rfl rfl ?_
    refine XS.aloadN X0.here hexec rfl (hb hbytes d1) rfl rfl ?_
    refine iconstV X0.here hexec rfl 0 (hb hbytes d2) (by decide) ?_
    refine XS.aloadN X0.here hexec rfl (hb hbytes d3) rfl rfl ?_
    refine X0.alen hexec (hA.1.mv X0.warmed.alike hh0) rfl rfl (hb hbytes d4) ?_
    refine XS.aconstNull X0.here hexec rfl (hb hbytes d5) ?_
    exact Steps.refl _)
  obtain ⟨v3, T3, X3, E3, g3⟩ := X0.callN hexec (New4.law l a D fV fC b A z 0 A.slots.size) rfl hown (wks W (initW "java/lang/String" 27 New4.yN)) (W New4.tab (by simp only [site, List.mem_cons, List.mem_append, true_or, or_true])) (W := 0) (Nat.le_of_ble_eq_true rfl) (Nat.le_of_ble_eq_true rfl) (Nat.le_refl _) (by show 0 + A.slots.size ≤ A.slots.size; omega) (g := (mkF m 6 #[.val (.ref a), .val (.ref b)] [.null, .int (Int32.ofNat A.slots.size), .int (Int32.ofNat 0), .ref b, .ref a])) rfl (by rw [hml]; rfl) c2 (argsL := [.ref b, .int (Int32.ofNat 0), .int (Int32.ofNat A.slots.size), .null]) (rest := []) rfl rfl (by show 2 * 0 + 0 ≤ _; decide) (hb hbytes d6) (⟨rfl, hB.mv X0.warmed.alike hh0, f1.al X0.warmed.alike, f2.al X0.warmed.alike, hA.mv X0.warmed.alike hh0, s1.there X0.warmed.alike hh0, hz, l0, by omega, l2, fun i hi => by rw [Nat.zero_add]; exact hp i hi⟩)
  have e0 := Got.mv _ s₁ s _ _ hh0.symm (Vm.Alike.refl _) rfl E3
  obtain rfl := e0.1
  have c4 : Steps p.tables e below (s₁.setTop (entryFrame m #[.ref a, .ref b] 2)) (T3.setTop (mkF m 9 #[.val (.ref a), .val (.ref b)] [])) := g3
  exact ⟨T3, none, _, _, _, X3, by simp, rfl, by omega, (fun _ => rfl), e0, fun fs hl => c4.trans (X3.returnOut hexec hret (hb hbytes d9) hl)⟩
theorem pays {l : Launch} {R : Room} {p : Program} {e : Env} {below : List Frame} {s : State} {sargs : Array Value} {len W : Nat} (a : Addr) (D : Cell) (fV fC : Field) (b : Addr) (A : Cell) (z : Int32) (htab : tab.before sargs s = true) (hfr : 4 ≤ R.frames) (hlo : W + 65 ≤ R.locals) :
    Back l R p e below s sargs yN len W (fun A₁ a₁ => A₁.cells + 1 ≤ R.cells ∧ A₁.slots + A.slots.size ≤ R.slots ∧ P a D fV fC b A z a₁ A₁.U) (fun A₁ _ v₁ B₁ => E a D fV fC A v₁ A₁.U B₁.U ∧ B₁.locs = A₁.locs ++ [⟨a, fC.slot⟩, ⟨a, fV.slot⟩] ∧ B₁.cells = A₁.cells + 1 ∧ B₁.slots = A₁.slots + A.slots.size) :=
  (law l a D fV fC b A z).pays htab hfr (by omega)
end New1
end StrChars
namespace StrChars.Road
open Jvm Sem ClassFile Op Lib Jvm.Stand Jvm.Free Jvm.Free.XT
open Jvm.Lib.Cold (StaticIs)
abbrev ST : String := "java/lang/String"
/-- every table word that New1's law asks, flat -/
abbrev words : List Jvm.Cond := [.code New1.yN New1.yB 2 none, .initialized ST, .methodLink ST 27 New4.yN, .instanceMethod New4.yN,
  .code New4.yN New4.yB 6 none, .fieldLink ST 38 ST "COMPACT_STRINGS" "Z", .laysFinal ST ST "value" "[B", .fieldLink ST 9 ST "value" "[B", .laysFinal ST ST "coder" "B", .fieldLink ST 15 ST "coder" "B",
  .methodLink ST 1 Lib.objectInit, .instanceMethod Lib.objectInit, .code Lib.objectInit ⟨#[0xb1]⟩ 1 none, .methodLink ST 177 Cmp3.yN, .static Cmp3.yN, .methodLink ST 47 CodL.yN, .static CodL.yN,
  .code Cmp3.yN Cmp3.yB 6 (some (.array .byte)), .initialized U16, .arrayClass .byte, .methodLink U16 115 Cmp5.yN, .static Cmp5.yN, .code Cmp5.yN Cmp5.yB 7 (some .int), .code CodL.yN CodL.yB 2 (some .byte)]
theorem tab_of {a : Array Value} {s : State} (h : ∀ w ∈ words, w.before a s = true) : New1.tab.before a s = true := by
  have h5 : Cmp5.tab.before a s = true := unparts (wk h (.code Cmp5.yN Cmp5.yB 7 (some .int))) (wks h (.initialized Cmp5.yN.cls :: Cmp5.site))
  have hc : CodL.tab.before a s = true := unparts (wk h (.code CodL.yN CodL.yB 2 (some .byte))) (wks h (.initialized CodL.yN.cls :: CodL.site))
  have q5 : ∀ w ∈ Cmp5.tab :: words, w.before a s = true := fun w hw => (List.mem_cons.mp hw).elim (fun e => e ▸ h5) (h w)
  have h3 : Cmp3.tab.before a s = true := unparts (wk q5 (.code Cmp3.yN Cmp3.yB 6 (some (.array .byte)))) (wks q5 (.initialized Cmp3.yN.cls :: Cmp3.site))
  have q3 : ∀ w ∈ Cmp3.tab :: CodL.tab :: words, w.before a s = true := fun w hw => (List.mem_cons.mp hw).elim (fun e => e ▸ h3) fun hw => (List.mem_cons.mp hw).elim (fun e => e ▸ hc) (h w)
  have h4 : New4.tab.before a s = true := unparts (wk q3 (.code New4.yN New4.yB 6 none)) (wks q3 (.initialized New4.yN.cls :: New4.site))
  have q4 : ∀ w ∈ New4.tab :: words, w.before a s = true := fun w hw => (List.mem_cons.mp hw).elim (fun e => e ▸ h4) (h w)
  exact unparts (wk q4 (.code New1.yN New1.yB 2 none)) (wks q4 (.initialized New1.yN.cls :: New1.site))
/-- the words ride from the start Z to the walk's own state -/
theorem moved {Z s : State} {a0 args : Array Value} (hZ : Z.Warmed39 s.vm) (hw : ∀ d ∈ words, d.before a0 Z = true) : ∀ d ∈ words, d.before args s = true := fun d hd => by
  have q := hw d hd
  have t : ∀ d ∈ words, d = .arrayClass .byte ∨ (d.onTables && d.keepsFace) = true := by decide +kernel
  rcases t d hd with rfl | t
  · exact RoadKit.mvA hZ q
  · exact RoadKit.mv hZ q t
/-- WHAT COMES BACK, over the tables of the start Z: h the heap at the call, h' behind it -/
def Q (Z : State) (x : Addr) (A : Cell) (h : Heap) (v : Option Value) (h' : Heap) (L : List Loc) : Prop := v = none ∧ (∀ y ∈ L, y.base = x) ∧ RoadKit.Keep h h' [x] ∧ h'.size = h.size + 1 ∧ RoadKit.Exa Z h' x ST ∧ RoadKit.Fld Z h' x ST "value" "[B" (.ref h.size) ∧ RoadKit.Fld Z h' x ST "coder" "B" (.int 0) ∧
  (∃ V : Cell, RoadKit.Arr Z h' h.size V .byte ∧ V.vm = .none ∧ Z.vm.findClass "[B" = some V.cls ∧ V.slots.size = A.slots.size ∧ ∀ j, j < A.slots.size → V.slots[j]? = some (.int (lo8 (cv A j)))) ∧
  ∀ (O n d : String) (w : Value), RoadKit.Fld Z h x O n d w → RoadKit.slotOf Z O n d ≠ RoadKit.slotOf Z ST "value" "[B" → RoadKit.slotOf Z O n d ≠ RoadKit.slotOf Z ST "coder" "B" → RoadKit.Fld Z h' x O n d w
/-- **new String(chars) AT A CALL, IN THE ROAD'S FORM**: for specialBack behind newO: x the fresh String, b the char[] with the cell A -/
theorem back {p : Program} {l : Launch} {e : Env} {R : Room} {s : State} {args : Array Value} {below : List Frame} {len W : Nat} {Z : State} {a0 : Array Value} {h : Heap} (hZ : Z.Warmed39 s.vm) (hw : ∀ d ∈ words, d.before a0 Z = true) {kI : Nat} (wi : (Jvm.Cond.instantiable ST kI).before a0 Z = true)
    {x b : Addr} {A : Cell} {z : Int32} {v0 c0 : Value} (E : RoadKit.Exa Z h x ST) (V : RoadKit.Fld Z h x ST "value" "[B" v0) (C : RoadKit.Fld Z h x ST "coder" "B" c0) (K : RoadKit.Arr Z h b A .char) (hty : Typed .char A) (S : RoadKit.Sta Z h ST "COMPACT_STRINGS" "Z" (.int z)) (hz : ¬ z = 0)
    (l0 : 0 < A.slots.size) (l2 : A.slots.size ≤ 536870912) (hp : ∀ i, i < A.slots.size → ¬ 255 < cv A i) (hfr : 4 ≤ R.frames) (hlo : W + 65 ≤ R.locals) :
    Back l R p e below s args New1.yN len W (fun P a => a = #[.ref x, .ref b] ∧ P.U.heap = h ∧ P.cells + 1 ≤ R.cells ∧ P.slots + A.slots.size ≤ R.slots)
      (fun P _ v B => ∃ L, Q Z x A h v B.U.heap L ∧ B.locs = P.locs ++ L ∧ B.cells = P.cells + 1 ∧ B.slots = P.slots + A.slots.size) := by
  intro m meth c P g ig mk a X hg hsize hdg hW hn hp'
  obtain ⟨rfl, rfl, r1, r2⟩ := hp'
  have al : Z.vm.Alike P.U.vm := hZ.alike.trans X.warmed.alike
  obtain ⟨D, cfV, kV, iV, fV, hD, gV, stV, knV, obV, asV, slV⟩ := id V
  obtain ⟨D', cfC, kC, iC, fC, hD', gC, stC, -, -, asC, slC⟩ := id C
  cases hD.symm.trans hD'
  obtain ⟨D2, kD, e1, e2, e3, e4, e5⟩ := id E
  cases hD.symm.trans e1
  obtain ⟨c2, k2, i1, i2, i3, -⟩ := Cond.instantiable_spec wi
  cases e2.symm.trans i1
  cases e3.symm.trans i2
  obtain ⟨kU, u1, u2⟩ := al.2.2 _ _ e3
  have hB : Blank ST x D P.U := ⟨hD, ⟨knV, fun q hq => by rw [hq] at obV; cases obV⟩, by rw [al.findClass]; exact e2, kU, u1, by rw [u2]; exact i3, by rw [u2]; exact e5 i3⟩
  have F1 : Found ST "value" "[B" fV P.U := ⟨SBG.found_only al ⟨cfV, kV, iV, gV⟩, stV⟩
  have F2 : Found ST "coder" "B" fC P.U := ⟨SBG.found_only al ⟨cfC, kC, iC, gC⟩, stC⟩
  have hA : Ch b A P.U := ⟨⟨K.1, State.isArrayOf_alike al K.2.1, K.2.2, by omega⟩, hty⟩
  have hS : StaticIs P.U ST "COMPACT_STRINGS" "Z" (.int z) := by
    obtain ⟨cfS, iS, kS, fS, st, cS, t1, t2, t3, t4, t5, t6, t7⟩ := S
    exact StaticIs.there (s := { Z with heap := P.U.heap }) ⟨cfS, iS, kS, fS, st, cS, t1, t2, t3, t4, t5, (fun q => by rw [q] at t6; cases t6), t7⟩ al rfl
  obtain ⟨v, B, X', ⟨⟨hv, E', V', q1, q2, q3, q4, q5, q6, q7, q8, q9, q10, q11⟩, hl, hc, hs⟩, st⟩ := New1.pays x D fV fC b A z (tab_of (moved hZ hw)) hfr hlo m meth c P g ig mk _ X hg hsize hdg hW hn ⟨r1, r2, rfl, hB, F1, F2, hA, hS, hz, l0, l2, hp⟩
  have al' : Z.vm.Alike B.U.vm := hZ.alike.trans X'.warmed.alike
  have hsz : E'.slots.size = D.slots.size := by
    obtain ⟨-, -, -, kB, w1, w2, w3⟩ := q1
    obtain ⟨kB', y1, y2⟩ := al'.2.2 _ _ e3
    rw [q2.2.1] at w1
    cases w1.symm.trans y1
    rw [w3, e5 i3, y2]
  refine ⟨v, B, X', ⟨_, ⟨hv, ?_, ⟨by omega, fun y cy hy hn' => q10 y cy (by simpa using hn') hy, fun y cy hy => ?_⟩, q11, ⟨E', _, q1.1, by rw [q2.2.1]; exact e2, by rw [q2.2.1]; exact e3, by rw [q2.1]; exact obV, fun _ => by rw [hsz]; exact e5 i3⟩,
    ⟨E', cfV, kV, iV, fV, q1.1, gV, stV, by rw [q2.1]; exact knV, by rw [q2.1]; exact obV, by rw [q2.2.1]; exact asV, q3⟩, ⟨E', cfC, kC, iC, fC, q1.1, gC, stC, by rw [q2.1]; exact knV, by rw [q2.1]; exact obV, by rw [q2.2.1]; exact asC, q4⟩,
    ⟨V', ⟨q5.1, State.isArrayOf_alike al'.symm q5.2.1, q5.2.2.1⟩, q6, by rw [← al'.findClass]; exact q7, q8, fun j hj => by have := q9 j hj; rwa [Nat.zero_add] at this⟩, fun O n d w F n1 n2 => ?_⟩, hl, hc, hs⟩, st⟩
  · intro y hy
    simp only [List.mem_cons, List.not_mem_nil, or_false] at hy
    rcases hy with rfl | rfl <;> rfl
  · by_cases q : y = x
    · subst q
      cases hD.symm.trans hy
      exact ⟨E', q1.1, q2.2.1, q2.1, hsz⟩
    · exact ⟨cy, q10 y cy q hy, rfl, rfl, rfl⟩
  · obtain ⟨D3, cf, k, i, f, g1, g2, g3, g4, g5, g6, g7⟩ := F
    cases hD.symm.trans g1
    simp only [RoadKit.slotOf, g2, gV, gC, Option.map_some, Option.getD_some] at n1 n2
    exact ⟨E', cf, k, i, f, q1.1, g2, g3, by rw [q2.1]; exact g4, by rw [q2.1]; exact g5, by rw [q2.2.1]; exact g6, by rw [q2.2.2 f.slot (by simp [n1, n2])]; exact g7⟩
end StrChars.Road
namespace StrChars.Road
open Jvm Sem ClassFile Op Lib Jvm.Stand Jvm.Free Jvm.Free.XT
/-- WHAT COMES BACK, the byte[] as a list of values -/
def QA (Z : State) (x : Addr) (zn : Int32) (cs : List Int32) (h : Heap) (v : Option Value) (h' : Heap) (L : List Loc) : Prop := v = none ∧ (∀ y ∈ L, y.base = x) ∧ RoadKit.Keep h h' [x] ∧ h'.size = h.size + 1 ∧ RoadKit.Exa Z h' x ST ∧ RoadKit.Fld Z h' x ST "value" "[B" (.ref h.size) ∧ RoadKit.Fld Z h' x ST "coder" "B" (.int 0) ∧
  (∃ kb, Z.vm.findClass "[B" = some kb ∧ RoadKit.Arv Z h' h.size kb .byte zn (cs.map fun c => .int (lo8 c)) (.int 0)) ∧
  ∀ (O n d : String) (w : Value), RoadKit.Fld Z h x O n d w → RoadKit.slotOf Z O n d ≠ RoadKit.slotOf Z ST "value" "[B" → RoadKit.slotOf Z O n d ≠ RoadKit.slotOf Z ST "coder" "B" → RoadKit.Fld Z h' x O n d w
/-- **new String(chars) AT A CALL, THE ARRAYS AS LISTS**: the char[] at b holds cs, not empty, no char above 255 -/
theorem backArv {p : Program} {l : Launch} {e : Env} {R : Room} {s : State} {args : Array Value} {below : List Frame} {len W : Nat} {Z : State} {a0 : Array Value} {h : Heap} (hZ : Z.Warmed39 s.vm) (hw : ∀ d ∈ words, d.before a0 Z = true) {kI : Nat} (wi : (Jvm.Cond.instantiable ST kI).before a0 Z = true)
    {x b : Addr} {k : ClassId} {zn z : Int32} {cs : List Int32} {dv v0 c0 : Value} (E : RoadKit.Exa Z h x ST) (V : RoadKit.Fld Z h x ST "value" "[B" v0) (C : RoadKit.Fld Z h x ST "coder" "B" c0) (K : RoadKit.Arv Z h b k .char zn (cs.map Value.int) dv) (S : RoadKit.Sta Z h ST "COMPACT_STRINGS" "Z" (.int z)) (hz : ¬ z = 0)
    (hlen : zn.toNatClampNeg = cs.length) (h0 : 0 < cs.length) (hbig : cs.length ≤ 536870912) (hall : ∀ c ∈ cs, ¬ 255 < c) (hfr : 4 ≤ R.frames) (hlo : W + 65 ≤ R.locals) :
    Back l R p e below s args New1.yN len W (fun P a => a = #[.ref x, .ref b] ∧ P.U.heap = h ∧ P.cells + 1 ≤ R.cells ∧ P.slots + cs.length ≤ R.slots)
      (fun P _ v B => ∃ L, QA Z x zn cs h v B.U.heap L ∧ B.locs = P.locs ++ L ∧ B.cells = P.cells + 1 ∧ B.slots = P.slots + cs.length) := by
  obtain ⟨A, K1, K2, K3, K4, K5, K6⟩ := K
  have e : A.slots.size = cs.length := K3.trans hlen
  have hat : ∀ (i : Nat) (hi : i < cs.length), A.slots[i]? = some (.int cs[i]) := fun i hi => by rw [K5 i (by omega)]; simp [List.getD_eq_getElem?_getD, hi]
  have hcv : ∀ (i : Nat) (hi : i < cs.length), cv A i = cs[i] := fun i hi => by unfold cv; rw [hat i hi]
  have hty : Typed .char A := fun i v hv => by
    have hi : i < A.slots.size := (Array.getElem?_eq_some_iff.mp hv).1
    have q := K5 i hi
    rw [hv] at q
    rw [Option.some.inj q]
    exact K6 i hi
  refine Back.mono (back hZ hw wi E V C K1 hty S hz (by omega) (by omega) (fun i hi => by rw [hcv i (by omega)]; exact hall _ (List.getElem_mem _)) hfr hlo) (fun P a hp => ⟨hp.1, hp.2.1, hp.2.2.1, by rw [e]; exact hp.2.2.2⟩) (fun P a v B hp hq => ?_)
  obtain ⟨L, ⟨q1, q2, q3, q4, q5, q6, q7, ⟨V', v1, v2, v3, v4, v5⟩, q9⟩, hl, hc, hs⟩ := hq
  refine ⟨L, ⟨q1, q2, q3, q4, q5, q6, q7, ⟨V'.cls, v3, V', v1, rfl, by rw [v4, e, hlen], K4, fun i hi => ?_, fun i hi => ?_⟩, q9⟩, hl, hc, by rw [hs, e]⟩
  · have hi' : i < cs.length := by omega
    rw [v5 i (by omega), hcv i hi']; simp [List.getD_eq_getElem?_getD, hi']
  · have hi' : i < cs.length := by omega
    simp only [List.getD_eq_getElem?_getD, List.getElem?_map, List.getElem?_eq_getElem hi', Option.map_some, Option.getD_some]
    exact fits_lo8 _
end StrChars.Road
namespace StrChars.Road
open Jvm Sem ClassFile Op Lib Jvm.Stand Jvm.Free Jvm.Free.XT
/-- WHAT COMES BACK, in the writer's own shape -/
def QV (Z : State) (x : Addr) (N : Int32) (bs : List Int32) (h : Heap) (n0 : Nat) (v : Option Value) (h' : Heap) (L : List Loc) : Prop := v = none ∧ RoadKit.Fr n0 L ∧ RoadKit.Keep h h' [x] ∧ RoadKit.Exa Z h' x ST ∧ RoadKit.Fld Z h' x ST "coder" "B" (.int 0) ∧
  ∃ (t : Addr) (kb : ClassId), n0 ≤ t ∧ h.size ≤ t ∧ ¬ t = x ∧ RoadKit.Fld Z h' x ST "value" "[B" (.ref t) ∧ RoadKit.Arv Z h' t kb .byte N (bs.map Value.int) (.int 0)
/-- **new String(chars) AT A CALL, FOR THE WRITER**: a char[] of n known ints, each 0 to 255 -/
theorem backV {p : Program} {l : Launch} {e : Env} {R : Room} {s : State} {args : Array Value} {below : List Frame} {len W : Nat} {Z : State} {a0 : Array Value} {h : Heap} (hZ : Z.Warmed39 s.vm) (hw : ∀ d ∈ words, d.before a0 Z = true) {kI : Nat} (wi : (Jvm.Cond.instantiable ST kI).before a0 Z = true)
    {x b : Addr} {kC : ClassId} {cs bs : List Int32} {d v0 c0 : Value} {z N : Int32} {n n0 : Nat} (hx0 : n0 ≤ x) (hh0 : n0 ≤ h.size) (E : RoadKit.Exa Z h x ST) (V : RoadKit.Fld Z h x ST "value" "[B" v0) (C : RoadKit.Fld Z h x ST "coder" "B" c0) (K : RoadKit.Arv Z h b kC .char N (cs.map Value.int) d) (S : RoadKit.Sta Z h ST "COMPACT_STRINGS" "Z" (.int z)) (hz : ¬ z = 0)
    (hn : cs.length = n) (hN : N = Int32.ofNat n) (l0 : 0 < n) (l2 : n ≤ 4000) (hp : ∀ c ∈ cs, ¬ c < 0 ∧ ¬ (255 : Int32) < c) (hb : bs = cs.map (fun c => c.toInt8.toInt32)) (hfr : 4 ≤ R.frames) (hlo : W + 65 ≤ R.locals) :
    Back l R p e below s args (⟨"java/lang/String", "<init>", "([C)V"⟩ : MethodName) len W (fun P a => a = #[.ref x, .ref b] ∧ P.U.heap = h ∧ P.cells + 1 ≤ R.cells ∧ P.slots + n ≤ R.slots)
      (fun P _ v B => ∃ L, QV Z x N bs h n0 v B.U.heap L ∧ B.locs = P.locs ++ L ∧ B.cells = P.cells + 1 ∧ B.slots = P.slots + n) := by
  subst hn hN hb
  refine Back.mono (backArv hZ hw wi E V C K S hz (n32 (by omega)) l0 (by omega) (fun c hc => (hp c hc).2) hfr hlo) (fun P a hp => hp) (fun P a v B hp hq => ?_)
  obtain ⟨L, ⟨q1, q2, q3, q4, q5, q6, q7, ⟨kb, v1, v2⟩, q9⟩, hl, hc, hs⟩ := hq
  exact ⟨L, ⟨q1, fun y hy => by rw [q2 y hy]; exact hx0, q3, q5, q7, h.size, kb, hh0, Nat.le_refl _, Nat.ne_of_gt E.lt, q6, by rw [List.map_map]; exact v2⟩, hl, hc, hs⟩
end StrChars.Road
end Jvm.Pilot.@@N@@
namespace Jvm.Pilot.@@N@@
open Jvm Jvm.ClassFile Sem Op Lib Jvm.Free Jvm.Stand Jvm.LawKit Jvm.RoadKit Bundle Jvm.Pilot.@@N@@.Jvm.D
/-- the run goes on from here to an end at which K holds -/
def own_Go (p : Program) (e : Env) (below : List Frame) (T : State) (g : JFrame) (K : State → Outcome → Prop) : Prop := ∃ s₂ o, Steps p.tables e below (T.setTop g) s₂ ∧ K s₂ o
section OwnGo
variable {p : Program} {l : Launch} {e : Env} {R : Room} {s : State} {m : MethodId} {args : Array Value} {below : List Frame} {meth : Method} {c : Code} {T T' s₂ : State} {o : Outcome} {locs : List Loc} {cells slots : Nat} {g g' : JFrame} {K : State → Outcome → Prop}
theorem own_enter (q : g = g') (k : own_Go p e below T g' K) : ∃ s₂ o, Steps p.tables e below (T.setTop g) s₂ ∧ K s₂ o := by subst q; exact k
theorem own_st (h : ∀ t, Steps p.tables e below (T'.setTop g') t → Steps p.tables e below (T.setTop g) t) (k : own_Go p e below T' g' K) : own_Go p e below T g K := by
  obtain ⟨s2, o, h1, h2⟩ := k
  exact ⟨s2, o, h _ h1, h2⟩
theorem own_tr (h : Steps p.tables e below (T.setTop g) (T'.setTop g')) (k : own_Go p e below T' g' K) : own_Go p e below T g K := own_st (fun _ q => h.trans q) k
theorem own_fin (h : Steps p.tables e below (T.setTop g) s₂) (k : K s₂ o) : own_Go p e below T g K := ⟨s₂, o, h, k⟩
theorem own_retI (X : Stand p l e R s m args below meth c T locs cells slots) (hx : p.tables.exec = Jvm.exec) {pc : Nat} {Ls : Array Slot} {z : Int32} {rest : List Value} (hret : meth.sig.returnType = some .int) (hd : decode c.code pc = .ok (.ireturn, 1)) {fs : List Frame}
    (hl : ∀ (f : JFrame) (acts : List Action), f.method = m → f.locked = none → f.entered = [] → (doReturn e (T.setTop f) acts (some (.int z))).1 = T.setFrames fs) : Steps p.tables e below (T.setTop (mkF m pc Ls (.int z :: rest))) (T.setFrames fs) := by
  have hm' : T.vm.method? m = some meth := X.method'
  have hn : narrow .int (.int z) = .int z := rfl
  show Steps p.tables e below (T.setTop { method := m, pc := pc, locals := Ls, stack := _ :: rest, locked := none }) _
  jvm_step X.here [X.here.top, hx, hd, hm', hret, hn]
  first | (intro acts; rw [hl _ acts rfl rfl rfl]) | rw [hl _ _ rfl rfl rfl]
  exact Steps.refl _
theorem own_retD (X : Stand p l e R s m args below meth c T locs cells slots) (hx : p.tables.exec = Jvm.exec) {pc : Nat} {Ls : Array Slot} {z : UInt64} {rest : List Value} (hret : meth.sig.returnType = some .double) (hd : decode c.code pc = .ok (.dreturn, 1)) {fs : List Frame}
    (hl : ∀ (f : JFrame) (acts : List Action), f.method = m → f.locked = none → f.entered = [] → (doReturn e (T.setTop f) acts (some (.double z))).1 = T.setFrames fs) : Steps p.tables e below (T.setTop (mkF m pc Ls (.double z :: rest))) (T.setFrames fs) := by
  have hm' : T.vm.method? m = some meth := X.method'
  have hn : narrow .double (.double z) = .double z := rfl
  show Steps p.tables e below (T.setTop { method := m, pc := pc, locals := Ls, stack := _ :: rest, locked := none }) _
  jvm_step X.here [X.here.top, hx, hd, hm', hret, hn]
  first | (intro acts; rw [hl _ acts rfl rfl rfl]) | rw [hl _ _ rfl rfl rfl]
  exact Steps.refl _
theorem own_retL (X : Stand p l e R s m args below meth c T locs cells slots) (hx : p.tables.exec = Jvm.exec) {pc : Nat} {Ls : Array Slot} {z : Int64} {rest : List Value} (hret : meth.sig.returnType = some .long) (hd : decode c.code pc = .ok (.lreturn, 1)) {fs : List Frame}
    (hl : ∀ (f : JFrame) (acts : List Action), f.method = m → f.locked = none → f.entered = [] → (doReturn e (T.setTop f) acts (some (.long z))).1 = T.setFrames fs) : Steps p.tables e below (T.setTop (mkF m pc Ls (.long z :: rest))) (T.setFrames fs) := by
  have hm' : T.vm.method? m = some meth := X.method'
  have hn : narrow .long (.long z) = .long z := rfl
  show Steps p.tables e below (T.setTop { method := m, pc := pc, locals := Ls, stack := _ :: rest, locked := none }) _
  jvm_step X.here [X.here.top, hx, hd, hm', hret, hn]
  first | (intro acts; rw [hl _ acts rfl rfl rfl]) | rw [hl _ _ rfl rfl rfl]
  exact Steps.refl _
theorem own_retR (X : Stand p l e R s m args below meth c T locs cells slots) (hx : p.tables.exec = Jvm.exec) {pc : Nat} {Ls : Array Slot} {z : Value} {t : FieldType} {rest : List Value} (hz : z.isRef = true) (hret : meth.sig.returnType = some t) (ht : t.isReference = true) (hd : decode c.code pc = .ok (.areturn, 1)) {fs : List Frame}
    (hl : ∀ (f : JFrame) (acts : List Action), f.method = m → f.locked = none → f.entered = [] → (doReturn e (T.setTop f) acts (some z)).1 = T.setFrames fs) : Steps p.tables e below (T.setTop (mkF m pc Ls (z :: rest))) (T.setFrames fs) := by
  have hm' : T.vm.method? m = some meth := X.method'
  show Steps p.tables e below (T.setTop { method := m, pc := pc, locals := Ls, stack := _ :: rest, locked := none }) _
  jvm_step X.here [X.here.top, hx, hd, hm', hret, hz, ht]
  first | (intro acts; rw [hl _ acts rfl rfl rfl]) | rw [hl _ _ rfl rfl rfl]
  exact Steps.refl _
end OwnGo
theorem own_up (cs : List Int32) (h : ∀ c ∈ cs, ¬ c < 0 ∧ ¬ (255 : Int32) < c) : ∀ c ∈ cs, ¬ c < 0 ∧ ¬ (65535 : Int32) < c := fun c hc => ⟨(h c hc).1, fun q => (h c hc).2 (by rw [Int32.lt_iff_toInt_lt] at q ⊢; have e1 : (65535 : Int32).toInt = 65535 := rfl; have e2 : (255 : Int32).toInt = 255 := rfl; omega)⟩
theorem own_c255 (x : Int32) (h0 : 0 ≤ x.toInt) (h1 : x.toInt ≤ 255) : nar .char (x.toUInt32.toUInt16.toUInt32.toInt32) = x := by
  have e : x.toUInt32.toUInt16.toUInt32.toInt32 = x := by
    have h := c_i2c x
    apply Int32.toInt_inj.mp
    omega
  show (x.toUInt32.toUInt16.toUInt32.toInt32).toUInt32.toUInt16.toUInt32.toInt32 = x
  rw [e, e]
theorem own_in255 (x : Int32) (h0 : 0 ≤ x.toInt) (h1 : x.toInt ≤ 255) : ¬ x < 0 ∧ ¬ (255 : Int32) < x := by
  constructor
  · rw [Int32.lt_iff_toInt_lt]; have : (0 : Int32).toInt = 0 := rfl; omega
  · rw [Int32.lt_iff_toInt_lt]; have : (255 : Int32).toInt = 255 := rfl; omega
theorem own_m255 (x : Int32) : 0 ≤ (x &&& (255 : Int32)).toInt ∧ (x &&& (255 : Int32)).toInt ≤ 255 := by
  have h := c_and x 255 (by decide)
  exact h
theorem own_narc (x : Int32) : nar .char ((x &&& (255 : Int32)).toUInt32.toUInt16.toUInt32.toInt32) = x &&& (255 : Int32) := own_c255 _ (own_m255 x).1 (own_m255 x).2
theorem d10_0 : decode jdk_71_method_1_code 0 = .ok (.aload_n 0, 1) := by decide +kernel
theorem d10_1 : decode jdk_71_method_1_code 1 = .ok (.invokespecial 1, 3) := by decide +kernel
theorem d10_4 : decode jdk_71_method_1_code 4 = .ok (.return_, 1) := by decide +kernel
theorem pn_10 : plainName "java/util/AbstractMap" = true := by first | (simp [plainName, overriddenIn]; done) | decide +kernel
theorem ef_rmAM (m : MethodId) (x0 : Addr) : entryFrame m #[(.ref x0)] 1 = mkF m 0 #[.val (.ref x0)] [] := by first | (simp [entryFrame, mkF, argsToLocals, Value.category]; done) | rfl
def Q_rmAM (Z : State) (a1 : Addr) (h0 : Heap) (n0 : Nat) (v : Option Value) (h : Heap) (L : List Loc) : Prop := v = none ∧ Fr n0 L ∧ h = h0
set_option maxRecDepth 65536 in
set_option maxHeartbeats 40000000 in
theorem rmAM (l : Launch) (Z : State) (a0 : Array Value) (hw : ∀ d ∈ tables_1, d.before a0 Z = true) (ws : List Jvm.Cond) (a1 : Addr) (h0 : Heap) (n0 : Nat) (Z0 : n0 ≤ h0.size) :
    MetFree l (⟨"java/util/AbstractMap", "<init>", "()V"⟩ : MethodName) (head1 (Jvm.Cond.code (⟨"java/util/AbstractMap", "<init>", "()V"⟩ : MethodName) jdk_71_method_1_code 1 none :: ws) ({ frames := 1, cells := 0, slots := 0, locals := 12 } : Room)) (fun a U => a = #[(.ref a1)] ∧ Z.Warmed39 U.vm ∧ U.heap = h0) (fun _ _ _ _ _ => True) (fun _ U o U' => ∃ v L, o = .returned v ∧ Q_rmAM Z a1 h0 n0 v U'.heap L ∧ FrameEnd U o U' L ({ frames := 1, cells := 0, slots := 0, locals := 12 } : Room).cells ({ frames := 1, cells := 0, slots := 0, locals := 12 } : Room).slots) := by
  refine MetFree.of_bodySF (plainFor_of_name pn_10) hisR ?_
  intro p e s m args below meth c s₁ Bd hml0 hP hK
  obtain ⟨rfl, hZ, hh⟩ := hP
  have hx := Bd.exec
  have hby := Bd.bytes
  have hml : c.maxLocals = 1 := hml0
  have hown : s.vm.findClass "java/util/AbstractMap" = some m.cls := findClass_of_methodNamed Bd.named
  have hnm := (name_of_methodNamed Bd.named Bd.method).1
  have X0 : Stand p l e ({ frames := 1, cells := 0, slots := 0, locals := 12 } : Room) s m #[(.ref a1)] below meth c s₁ [] 0 0 := Stand.of_body Bd
  have e0 : s₁.heap = h0 := by rw [← hh, Bd.state]; rfl
  have N0 := Fr.nil n0
  refine own_enter (ef_rmAM m a1) ?_
  refine own_st (fun t k => XS.aloadN X0.here hx rfl (hb hby d10_0) rfl rfl k) ?_
  show own_Go p e below s₁ (mkF m 1 #[.val (.ref a1)] [(.ref a1)]) _
  obtain ⟨T1, X1, e1, st1⟩ := initO X0 hx hZ hown (hw _ (List.mem_of_getElem? (i := 55) rfl)) (hw _ (List.mem_of_getElem? (i := 12) rfl)) (hw _ (List.mem_of_getElem? (i := 13) rfl)) e0 (g := (mkF m 1 #[.val (.ref a1)] [(.ref a1)])) rfl (by rw [hml]; rfl) rfl (hb hby d10_1) (by decide) (W := 0) (by show 2 * 0 + _ ≤ _; exact Nat.le_of_eq rfl) (by decide)
  refine own_st st1 ?_
  show own_Go p e below T1 (mkF m 4 #[.val (.ref a1)] []) _
  obtain ⟨fs, hr, hrun, hended, hW, hsame⟩ := X1.leave (v := none) (fun _ => rfl)
  refine own_fin (X1.returnOut hx Bd.returns (hb hby d10_4) hr) ⟨hrun, hended, _, _, rfl, ?_, ⟨_, rfl⟩, hW, hsame.mono (by decide) (by decide)⟩
  show Q_rmAM Z a1 h0 n0 _ T1.heap _
  rw [e1]
  exact ⟨rfl, N0, rfl⟩
theorem d9_0 : decode jdk_69_method_7_code 0 = .ok (.aload_n 0, 1) := by decide +kernel
theorem d9_1 : decode jdk_69_method_7_code 1 = .ok (.invokespecial 43, 3) := by decide +kernel
theorem d9_4 : decode jdk_69_method_7_code 4 = .ok (.aload_n 0, 1) := by decide +kernel
theorem d9_5 : decode jdk_69_method_7_code 5 = .ok (.ldc 92, 2) := by decide +kernel
theorem d9_7 : decode jdk_69_method_7_code 7 = .ok (.putfield 81, 3) := by decide +kernel
theorem d9_10 : decode jdk_69_method_7_code 10 = .ok (.return_, 1) := by decide +kernel
theorem pn_9 : plainName "java/util/HashMap" = true := by first | (simp [plainName, overriddenIn]; done) | decide +kernel
theorem pd___V : parseMethodDescriptor "()V" = some ⟨[], none⟩ := by decide +kernel
theorem ef_rmHM (m : MethodId) (x0 : Addr) : entryFrame m #[(.ref x0)] 1 = mkF m 0 #[.val (.ref x0)] [] := by first | (simp [entryFrame, mkF, argsToLocals, Value.category]; done) | rfl
def Q_rmHM (Z : State) (a1 : Addr) (u1 : Value) (u2 : Value) (u3 : Value) (h0 : Heap) (n0 : Nat) (v : Option Value) (h : Heap) (L : List Loc) : Prop := v = none ∧ Fr n0 L ∧ Keep h0 h [a1] ∧ Fld Z h a1 "java/util/LinkedHashMap" "putMode" "I" u2 ∧ Fld Z h a1 "java/util/LinkedHashMap" "accessOrder" "Z" u3
set_option maxRecDepth 65536 in
set_option maxHeartbeats 40000000 in
theorem rmHM (l : Launch) (Z : State) (a0 : Array Value) (hw : ∀ d ∈ tables_1, d.before a0 Z = true) (ws : List Jvm.Cond) (a1 : Addr) (u1 : Value) (u2 : Value) (u3 : Value) (h0 : Heap) (n0 : Nat) (Z0 : n0 ≤ h0.size) (pE_a1 : Exa Z h0 a1 "java/util/LinkedHashMap") (pF_loadFactor_a1 : Fld Z h0 a1 "java/util/HashMap" "loadFactor" "F" u1) (pF_putMode_a1 : Fld Z h0 a1 "java/util/LinkedHashMap" "putMode" "I" u2) (pF_accessOrder_a1 : Fld Z h0 a1 "java/util/LinkedHashMap" "accessOrder" "Z" u3) (pG_a1 : n0 ≤ a1) :
    MetFree l (⟨"java/util/HashMap", "<init>", "()V"⟩ : MethodName) (head1 (Jvm.Cond.code (⟨"java/util/HashMap", "<init>", "()V"⟩ : MethodName) jdk_69_method_7_code 1 none :: ws) ({ frames := 2, cells := 0, slots := 0, locals := 24 } : Room)) (fun a U => a = #[(.ref a1)] ∧ Z.Warmed39 U.vm ∧ U.heap = h0) (fun _ _ _ _ _ => True) (fun _ U o U' => ∃ v L, o = .returned v ∧ Q_rmHM Z a1 u1 u2 u3 h0 n0 v U'.heap L ∧ FrameEnd U o U' L ({ frames := 2, cells := 0, slots := 0, locals := 24 } : Room).cells ({ frames := 2, cells := 0, slots := 0, locals := 24 } : Room).slots) := by
  refine MetFree.of_bodySF (plainFor_of_name pn_9) hisR ?_
  intro p e s m args below meth c s₁ Bd hml0 hP hK
  obtain ⟨rfl, hZ, hh⟩ := hP
  have hx := Bd.exec
  have hby := Bd.bytes
  have hml : c.maxLocals = 1 := hml0
  have hown : s.vm.findClass "java/util/HashMap" = some m.cls := findClass_of_methodNamed Bd.named
  have hnm := (name_of_methodNamed Bd.named Bd.method).1
  have X0 : Stand p l e ({ frames := 2, cells := 0, slots := 0, locals := 24 } : Room) s m #[(.ref a1)] below meth c s₁ [] 0 0 := Stand.of_body Bd
  have e0 : s₁.heap = h0 := by rw [← hh, Bd.state]; rfl
  have N0 := Fr.nil n0
  refine own_enter (ef_rmHM m a1) ?_
  refine own_st (fun t k => XS.aloadN X0.here hx rfl (hb hby d9_0) rfl rfl k) ?_
  show own_Go p e below s₁ (mkF m 1 #[.val (.ref a1)] [(.ref a1)]) _
  obtain ⟨_, _, ⟨T1, L1, k1, n1⟩, -, X1, ⟨Lc1, hQ1, l1, y1, z1⟩, st1⟩ := X0.specialBack hx (y := (⟨"java/util/AbstractMap", "<init>", "()V"⟩ : MethodName)) rfl hown (mvT hZ (hw _ (List.mem_of_getElem? (i := 49) rfl))) (mvT hZ (hw _ (List.mem_of_getElem? (i := 50) rfl))) (mvT hZ (hw _ (List.mem_of_getElem? (i := 54) rfl))) (by decide) (backOf (W := 0) (rmAM l Z a0 hw [] a1 h0 n0 Z0 ) hZ (hw _ (List.mem_of_getElem? (i := 54) rfl)) (hw _ (List.mem_of_getElem? (i := 53) rfl)) (by decide) (by decide)) (g := (mkF m 1 #[.val (.ref a1)] [(.ref a1)])) rfl (by rw [hml]; rfl) (Steps.refl _) (a := a1) (argsL := []) (rest := []) (lenOf pd___V rfl) rfl (by show 2 * 0 + _ ≤ _; exact Nat.le_of_eq rfl) (hb hby d9_1) (fun _ _ => ⟨rfl, e0, (by decide : 0 + 0 ≤ _), (by decide : 0 + 0 ≤ _)⟩)
  dsimp only [Pt.U, Pt.locs, Pt.cells, Pt.slots] at X1 l1 y1 z1 st1 hQ1
  subst l1 y1 z1
  obtain ⟨rfl, Nq1, eH1⟩ := hQ1
  have N1 := Fr.app N0 Nq1
  refine own_tr st1 ?_
  show own_Go p e below T1 (mkF m 4 #[.val (.ref a1)] []) _
  refine own_st (fun t k => XS.aloadN X1.here hx rfl (hb hby d9_4) rfl rfl k) ?_
  show own_Go p e below T1 (mkF m 5 #[.val (.ref a1)] [(.ref a1)]) _
  refine own_st (fun t k => X1.ldcFloatC hx hown (mvT hZ (hw _ (List.mem_of_getElem? (i := 56) rfl))) (g := (mkF m 5 #[.val (.ref a1)] [(.ref a1)])) rfl (hb hby d9_5) _ k) ?_
  show own_Go p e below T1 (mkF m 7 #[.val (.ref a1)] [(.float (1061158912 : UInt32)), (.ref a1)]) _
  obtain ⟨T2, h2, X2, e2, W2, st2⟩ := putF X1 hx hZ hown (host := "") (Or.inl (hw _ (List.mem_of_getElem? (i := 57) rfl))) Via.refl eH1 pF_loadFactor_a1 pE_a1 (Or.inr ⟨(hw _ (List.mem_of_getElem? (i := 58) rfl)), rfl, hnm⟩) (hw _ (List.mem_of_getElem? (i := 38) rfl)) (ty := .float) (by decide) rfl rfl (g := (mkF m 7 #[.val (.ref a1)] [(.float (1061158912 : UInt32)), (.ref a1)])) rfl rfl (hb hby d9_7)
  have F2 := pF_loadFactor_a1.same W2
  have K3 : Keep h0 h2 [a1] := (Keep.refl h0 [a1]).wr W2 (Or.inl (List.mem_of_getElem? (i := 0) rfl))
  have N2 := Fr.snoc X2 N1 pG_a1
  refine own_st st2 ?_
  show own_Go p e below T2 (mkF m 10 #[.val (.ref a1)] []) _
  have f4 := (pF_putMode_a1.other W2 (Or.inr (slot_ne (Or.inl (hw _ (List.mem_of_getElem? (i := 60) rfl))) (Or.inr (hw _ (List.mem_of_getElem? (i := 58) rfl))) (by decide) (t := .int) (t' := .float) (by decide) (by decide))))
  have f5 := (pF_accessOrder_a1.other W2 (Or.inr (slot_ne (Or.inr (hw _ (List.mem_of_getElem? (i := 62) rfl))) (Or.inr (hw _ (List.mem_of_getElem? (i := 58) rfl))) (by decide) (t := .boolean) (t' := .float) (by decide) (by decide))))
  obtain ⟨fs, hr, hrun, hended, hW, hsame⟩ := X2.leave (v := none) (fun _ => rfl)
  refine own_fin (X2.returnOut hx Bd.returns (hb hby d9_10) hr) ⟨hrun, hended, _, _, rfl, ?_, ⟨_, rfl⟩, hW, hsame.mono (by decide) (by decide)⟩
  show Q_rmHM Z a1 u1 u2 u3 h0 n0 _ T2.heap _
  rw [e2]
  exact ⟨rfl, N2, K3, f4, f5⟩
theorem d8_0 : decode jdk_94_method_16_code 0 = .ok (.aload_n 0, 1) := by decide +kernel
theorem d8_1 : decode jdk_94_method_16_code 1 = .ok (.invokespecial 87, 3) := by decide +kernel
theorem d8_4 : decode jdk_94_method_16_code 4 = .ok (.aload_n 0, 1) := by decide +kernel
theorem d8_5 : decode jdk_94_method_16_code 5 = .ok (.iconst 0, 1) := by decide +kernel
theorem d8_6 : decode jdk_94_method_16_code 6 = .ok (.putfield 1, 3) := by decide +kernel
theorem d8_9 : decode jdk_94_method_16_code 9 = .ok (.aload_n 0, 1) := by decide +kernel
theorem d8_10 : decode jdk_94_method_16_code 10 = .ok (.iconst 0, 1) := by decide +kernel
theorem d8_11 : decode jdk_94_method_16_code 11 = .ok (.putfield 64, 3) := by decide +kernel
theorem d8_14 : decode jdk_94_method_16_code 14 = .ok (.return_, 1) := by decide +kernel
theorem pn_8 : plainName "java/util/LinkedHashMap" = true := by first | (simp [plainName, overriddenIn]; done) | decide +kernel
theorem ef_rmLH (m : MethodId) (x0 : Addr) : entryFrame m #[(.ref x0)] 1 = mkF m 0 #[.val (.ref x0)] [] := by first | (simp [entryFrame, mkF, argsToLocals, Value.category]; done) | rfl
def Q_rmLH (Z : State) (a1 : Addr) (u1 : Value) (u2 : Value) (u3 : Value) (h0 : Heap) (n0 : Nat) (v : Option Value) (h : Heap) (L : List Loc) : Prop := v = none ∧ Fr n0 L ∧ Keep h0 h [a1]
set_option maxRecDepth 65536 in
set_option maxHeartbeats 40000000 in
theorem rmLH (l : Launch) (Z : State) (a0 : Array Value) (hw : ∀ d ∈ tables_1, d.before a0 Z = true) (ws : List Jvm.Cond) (a1 : Addr) (u1 : Value) (u2 : Value) (u3 : Value) (h0 : Heap) (n0 : Nat) (Z0 : n0 ≤ h0.size) (pE_a1 : Exa Z h0 a1 "java/util/LinkedHashMap") (pF_loadFactor_a1 : Fld Z h0 a1 "java/util/HashMap" "loadFactor" "F" u1) (pF_putMode_a1 : Fld Z h0 a1 "java/util/LinkedHashMap" "putMode" "I" u2) (pF_accessOrder_a1 : Fld Z h0 a1 "java/util/LinkedHashMap" "accessOrder" "Z" u3) (pG_a1 : n0 ≤ a1) :
    MetFree l (⟨"java/util/LinkedHashMap", "<init>", "()V"⟩ : MethodName) (head1 (Jvm.Cond.code (⟨"java/util/LinkedHashMap", "<init>", "()V"⟩ : MethodName) jdk_94_method_16_code 1 none :: ws) ({ frames := 3, cells := 0, slots := 0, locals := 36 } : Room)) (fun a U => a = #[(.ref a1)] ∧ Z.Warmed39 U.vm ∧ U.heap = h0) (fun _ _ _ _ _ => True) (fun _ U o U' => ∃ v L, o = .returned v ∧ Q_rmLH Z a1 u1 u2 u3 h0 n0 v U'.heap L ∧ FrameEnd U o U' L ({ frames := 3, cells := 0, slots := 0, locals := 36 } : Room).cells ({ frames := 3, cells := 0, slots := 0, locals := 36 } : Room).slots) := by
  refine MetFree.of_bodySF (plainFor_of_name pn_8) hisR ?_
  intro p e s m args below meth c s₁ Bd hml0 hP hK
  obtain ⟨rfl, hZ, hh⟩ := hP
  have hx := Bd.exec
  have hby := Bd.bytes
  have hml : c.maxLocals = 1 := hml0
  have hown : s.vm.findClass "java/util/LinkedHashMap" = some m.cls := findClass_of_methodNamed Bd.named
  have hnm := (name_of_methodNamed Bd.named Bd.method).1
  have X0 : Stand p l e ({ frames := 3, cells := 0, slots := 0, locals := 36 } : Room) s m #[(.ref a1)] below meth c s₁ [] 0 0 := Stand.of_body Bd
  have e0 : s₁.heap = h0 := by rw [← hh, Bd.state]; rfl
  have N0 := Fr.nil n0
  refine own_enter (ef_rmLH m a1) ?_
  refine own_st (fun t k => XS.aloadN X0.here hx rfl (hb hby d8_0) rfl rfl k) ?_
  show own_Go p e below s₁ (mkF m 1 #[.val (.ref a1)] [(.ref a1)]) _
  obtain ⟨_, _, ⟨T1, L1, k1, n1⟩, -, X1, ⟨Lc1, hQ1, l1, y1, z1⟩, st1⟩ := X0.specialBack hx (y := (⟨"java/util/HashMap", "<init>", "()V"⟩ : MethodName)) rfl hown (mvT hZ (hw _ (List.mem_of_getElem? (i := 43) rfl))) (mvT hZ (hw _ (List.mem_of_getElem? (i := 44) rfl))) (mvT hZ (hw _ (List.mem_of_getElem? (i := 48) rfl))) (by decide) (backOf (W := 0) (rmHM l Z a0 hw [] a1 u1 u2 u3 h0 n0 Z0 pE_a1 pF_loadFactor_a1 pF_putMode_a1 pF_accessOrder_a1 pG_a1) hZ (hw _ (List.mem_of_getElem? (i := 48) rfl)) (hw _ (List.mem_of_getElem? (i := 47) rfl)) (by decide) (by decide)) (g := (mkF m 1 #[.val (.ref a1)] [(.ref a1)])) rfl (by rw [hml]; rfl) (Steps.refl _) (a := a1) (argsL := []) (rest := []) (lenOf pd___V rfl) rfl (by show 2 * 0 + _ ≤ _; exact Nat.le_of_eq rfl) (hb hby d8_1) (fun _ _ => ⟨rfl, e0, (by decide : 0 + 0 ≤ _), (by decide : 0 + 0 ≤ _)⟩)
  dsimp only [Pt.U, Pt.locs, Pt.cells, Pt.slots] at X1 l1 y1 z1 st1 hQ1
  subst l1 y1 z1
  obtain ⟨rfl, Nq1, Kq1, q1_0, q1_1⟩ := hQ1
  have N1 := Fr.app N0 Nq1
  have K2 : Keep h0 T1.heap [a1] := (Keep.refl h0 [a1]).trans Kq1 (allS (Or.inl (List.mem_of_getElem? (i := 0) rfl)) all0)
  refine own_tr st1 ?_
  show own_Go p e below T1 (mkF m 4 #[.val (.ref a1)] []) _
  refine own_st (fun t k => XS.aloadN X1.here hx rfl (hb hby d8_4) rfl rfl k) ?_
  show own_Go p e below T1 (mkF m 5 #[.val (.ref a1)] [(.ref a1)]) _
  refine own_st (fun t k => XS.iconst X1.here hx rfl (hb hby d8_5) k) ?_
  show own_Go p e below T1 (mkF m 6 #[.val (.ref a1)] [(.int (0 : Int32)), (.ref a1)]) _
  have f3 := (pE_a1.keep Kq1)
  obtain ⟨T4, h4, X4, e4, W4, st4⟩ := putF X1 hx hZ hown (host := "") (Or.inl (hw _ (List.mem_of_getElem? (i := 59) rfl))) Via.refl rfl q1_0 f3 (Or.inl (hw _ (List.mem_of_getElem? (i := 60) rfl))) (hw _ (List.mem_of_getElem? (i := 38) rfl)) (ty := .int) (by decide) rfl rfl (g := (mkF m 6 #[.val (.ref a1)] [(.int (0 : Int32)), (.ref a1)])) rfl rfl (hb hby d8_6)
  have F4 := q1_0.same W4
  have K5 : Keep h0 h4 [a1] := K2.wr W4 (Or.inl (List.mem_of_getElem? (i := 0) rfl))
  have N4 := Fr.snoc X4 N1 pG_a1
  refine own_st st4 ?_
  show own_Go p e below T4 (mkF m 9 #[.val (.ref a1)] []) _
  refine own_st (fun t k => XS.aloadN X4.here hx rfl (hb hby d8_9) rfl rfl k) ?_
  show own_Go p e below T4 (mkF m 10 #[.val (.ref a1)] [(.ref a1)]) _
  refine own_st (fun t k => XS.iconst X4.here hx rfl (hb hby d8_10) k) ?_
  show own_Go p e below T4 (mkF m 11 #[.val (.ref a1)] [(.int (0 : Int32)), (.ref a1)]) _
  have f6 := (f3.wr W4)
  have f7 := (q1_1.other W4 (Or.inr (slot_ne (Or.inr (hw _ (List.mem_of_getElem? (i := 62) rfl))) (Or.inl (hw _ (List.mem_of_getElem? (i := 60) rfl))) (by decide) (t := .boolean) (t' := .int) (by decide) (by decide))))
  obtain ⟨T8, h8, X8, e8, W8, st8⟩ := putFN X4 hx hZ hown (hw _ (List.mem_of_getElem? (i := 61) rfl)) Via.refl e4 f7 f6 (Or.inr ⟨(hw _ (List.mem_of_getElem? (i := 62) rfl)), rfl, hnm⟩) (hw _ (List.mem_of_getElem? (i := 38) rfl)) (ty := .boolean) (v' := (.int (0 : Int32))) (by decide) rfl (by decide) (g := (mkF m 11 #[.val (.ref a1)] [(.int (0 : Int32)), (.ref a1)])) rfl rfl (hb hby d8_11)
  have F8 := f7.same W8
  have K9 : Keep h0 h8 [a1] := K5.wr W8 (Or.inl (List.mem_of_getElem? (i := 0) rfl))
  have N8 := Fr.snoc X8 N4 pG_a1
  refine own_st st8 ?_
  show own_Go p e below T8 (mkF m 14 #[.val (.ref a1)] []) _
  obtain ⟨fs, hr, hrun, hended, hW, hsame⟩ := X8.leave (v := none) (fun _ => rfl)
  refine own_fin (X8.returnOut hx Bd.returns (hb hby d8_14) hr) ⟨hrun, hended, _, _, rfl, ?_, ⟨_, rfl⟩, hW, hsame.mono (by decide) (by decide)⟩
  show Q_rmLH Z a1 u1 u2 u3 h0 n0 _ T8.heap _
  rw [e8]
  exact ⟨rfl, N8, K9⟩
theorem d7_0 : decode prog_36_method_1_code 0 = .ok (.aload_n 0, 1) := by decide +kernel
theorem d7_1 : decode prog_36_method_1_code 1 = .ok (.invokespecial 1, 3) := by decide +kernel
theorem d7_4 : decode prog_36_method_1_code 4 = .ok (.aload_n 0, 1) := by decide +kernel
theorem d7_5 : decode prog_36_method_1_code 5 = .ok (.new 7, 3) := by decide +kernel
theorem d7_8 : decode prog_36_method_1_code 8 = .ok (.dup, 1) := by decide +kernel
theorem d7_9 : decode prog_36_method_1_code 9 = .ok (.invokespecial 9, 3) := by decide +kernel
theorem d7_12 : decode prog_36_method_1_code 12 = .ok (.putfield 10, 3) := by decide +kernel
theorem d7_15 : decode prog_36_method_1_code 15 = .ok (.aload_n 0, 1) := by decide +kernel
theorem d7_16 : decode prog_36_method_1_code 16 = .ok (.new 7, 3) := by decide +kernel
theorem d7_19 : decode prog_36_method_1_code 19 = .ok (.dup, 1) := by decide +kernel
theorem d7_20 : decode prog_36_method_1_code 20 = .ok (.invokespecial 9, 3) := by decide +kernel
theorem d7_23 : decode prog_36_method_1_code 23 = .ok (.putfield 16, 3) := by decide +kernel
theorem d7_26 : decode prog_36_method_1_code 26 = .ok (.aload_n 0, 1) := by decide +kernel
theorem d7_27 : decode prog_36_method_1_code 27 = .ok (.aload_n 1, 1) := by decide +kernel
theorem d7_28 : decode prog_36_method_1_code 28 = .ok (.putfield 19, 3) := by decide +kernel
theorem d7_31 : decode prog_36_method_1_code 31 = .ok (.return_, 1) := by decide +kernel
theorem pn_7 : plainName "com/example/phlow/phlow/policy/PolicyClass" = true := by first | (simp [plainName, overriddenIn]; done) | decide +kernel
theorem ef_rmPC (m : MethodId) (x0 : Addr) (x1 : Addr) : entryFrame m #[(.ref x0), (.ref x1)] 2 = mkF m 0 #[.val (.ref x0), .val (.ref x1)] [] := by first | (simp [entryFrame, mkF, argsToLocals, Value.category]; done) | rfl
def Q_rmPC (Z : State) (a1 : Addr) (a2 : Addr) (u1 : Value) (u2 : Value) (u3 : Value) (f : Int32) (h0 : Heap) (n0 : Nat) (v : Option Value) (h : Heap) (L : List Loc) : Prop := v = none ∧ Fr n0 L ∧ Keep h0 h [a1] ∧ Fld Z h a1 "com/example/phlow/phlow/policy/PolicyClass" "name" "Ljava/lang/String;" (.ref a2) ∧ Fld Z h a1 "com/example/phlow/phlow/policy/PolicyClass" "foreign" "Z" (.int f)
set_option maxRecDepth 65536 in
set_option maxHeartbeats 40000000 in
theorem rmPC (l : Launch) (Z : State) (a0 : Array Value) (hw : ∀ d ∈ tables_1, d.before a0 Z = true) (ws : List Jvm.Cond) (a1 : Addr) (a2 : Addr) (u1 : Value) (u2 : Value) (u3 : Value) (f : Int32) (h0 : Heap) (n0 : Nat) (Z0 : n0 ≤ h0.size) (pE_a1 : Exa Z h0 a1 "com/example/phlow/phlow/policy/PolicyClass") (pF_methods_a1 : Fld Z h0 a1 "com/example/phlow/phlow/policy/PolicyClass" "methods" "Ljava/util/Map;" u1) (pF_attributes_a1 : Fld Z h0 a1 "com/example/phlow/phlow/policy/PolicyClass" "attributes" "Ljava/util/Map;" u2) (pF_name_a1 : Fld Z h0 a1 "com/example/phlow/phlow/policy/PolicyClass" "name" "Ljava/lang/String;" u3) (pF_foreign_a1 : Fld Z h0 a1 "com/example/phlow/phlow/policy/PolicyClass" "foreign" "Z" (.int f)) (pG_a1 : n0 ≤ a1) :
    MetFree l (⟨"com/example/phlow/phlow/policy/PolicyClass", "<init>", "(Ljava/lang/String;)V"⟩ : MethodName) (head1 (Jvm.Cond.code (⟨"com/example/phlow/phlow/policy/PolicyClass", "<init>", "(Ljava/lang/String;)V"⟩ : MethodName) prog_36_method_1_code 2 none :: ws) ({ frames := 4, cells := 2, slots := 24, locals := 50 } : Room)) (fun a U => a = #[(.ref a1), (.ref a2)] ∧ Z.Warmed39 U.vm ∧ U.heap = h0) (fun _ _ _ _ _ => True) (fun _ U o U' => ∃ v L, o = .returned v ∧ Q_rmPC Z a1 a2 u1 u2 u3 f h0 n0 v U'.heap L ∧ FrameEnd U o U' L ({ frames := 4, cells := 2, slots := 24, locals := 50 } : Room).cells ({ frames := 4, cells := 2, slots := 24, locals := 50 } : Room).slots) := by
  refine MetFree.of_bodySF (plainFor_of_name pn_7) hisR ?_
  intro p e s m args below meth c s₁ Bd hml0 hP hK
  obtain ⟨rfl, hZ, hh⟩ := hP
  have hx := Bd.exec
  have hby := Bd.bytes
  have hml : c.maxLocals = 2 := hml0
  have hown : s.vm.findClass "com/example/phlow/phlow/policy/PolicyClass" = some m.cls := findClass_of_methodNamed Bd.named
  have hnm := (name_of_methodNamed Bd.named Bd.method).1
  have X0 : Stand p l e ({ frames := 4, cells := 2, slots := 24, locals := 50 } : Room) s m #[(.ref a1), (.ref a2)] below meth c s₁ [] 0 0 := Stand.of_body Bd
  have e0 : s₁.heap = h0 := by rw [← hh, Bd.state]; rfl
  have N0 := Fr.nil n0
  refine own_enter (ef_rmPC m a1 a2) ?_
  refine own_st (fun t k => XS.aloadN X0.here hx rfl (hb hby d7_0) rfl rfl k) ?_
  show own_Go p e below s₁ (mkF m 1 #[.val (.ref a1), .val (.ref a2)] [(.ref a1)]) _
  obtain ⟨T1, X1, e1, st1⟩ := initO X0 hx hZ hown (hw _ (List.mem_of_getElem? (i := 36) rfl)) (hw _ (List.mem_of_getElem? (i := 12) rfl)) (hw _ (List.mem_of_getElem? (i := 13) rfl)) e0 (g := (mkF m 1 #[.val (.ref a1), .val (.ref a2)] [(.ref a1)])) rfl (by rw [hml]; rfl) rfl (hb hby d7_1) (by decide) (W := 0) (by show 2 * 0 + _ ≤ _; exact Nat.le_of_eq rfl) (by decide)
  refine own_st st1 ?_
  show own_Go p e below T1 (mkF m 4 #[.val (.ref a1), .val (.ref a2)] []) _
  refine own_st (fun t k => XS.aloadN X1.here hx rfl (hb hby d7_4) rfl rfl k) ?_
  show own_Go p e below T1 (mkF m 5 #[.val (.ref a1), .val (.ref a2)] [(.ref a1)]) _
  obtain ⟨T2, h2, X2, e2, E2, A2, D2, -, st2⟩ := newO X1 hx hZ hown (hw _ (List.mem_of_getElem? (i := 37) rfl)) (hw _ (List.mem_of_getElem? (i := 38) rfl)) (hw _ (List.mem_of_getElem? (i := 39) rfl)) e1 (g := (mkF m 5 #[.val (.ref a1), .val (.ref a2)] [(.ref a1)])) rfl (hb hby d7_5) (by decide) (by decide)
  obtain ⟨b2, g2⟩ : ∃ z, z = h0.size := ⟨_, rfl⟩
  rw [← g2] at A2 D2 st2
  have G2 : n0 ≤ b2 := Nat.le_trans Z0 (Nat.le_of_eq g2.symm)
  have B2 : h0.size ≤ b2 := Nat.le_trans (Keep.refl h0 [a1]).1 (Nat.le_of_eq g2.symm)
  have K3 : Keep h0 h2 [a1] := (Keep.refl h0 [a1]).ext E2
  have D2_loadFactor : Fld Z h2 b2 "java/util/HashMap" "loadFactor" "F" (.float (0 : UInt32)) := D2 (Or.inr (hw _ (List.mem_of_getElem? (i := 58) rfl))) (ty := .float) (by decide)
  have D2_putMode : Fld Z h2 b2 "java/util/LinkedHashMap" "putMode" "I" (.int (0 : Int32)) := D2 (Or.inl (hw _ (List.mem_of_getElem? (i := 60) rfl))) (ty := .int) (by decide)
  have D2_accessOrder : Fld Z h2 b2 "java/util/LinkedHashMap" "accessOrder" "Z" (.int (0 : Int32)) := D2 (Or.inr (hw _ (List.mem_of_getElem? (i := 62) rfl))) (ty := .boolean) (by decide)
  refine own_st st2 ?_
  show own_Go p e below T2 (mkF m 8 #[.val (.ref a1), .val (.ref a2)] [(.ref b2), (.ref a1)]) _
  refine own_st (fun t k => XS.dup X2.here hx rfl (hb hby d7_8) rfl rfl k) ?_
  show own_Go p e below T2 (mkF m 9 #[.val (.ref a1), .val (.ref a2)] [(.ref b2), (.ref b2), (.ref a1)]) _
  have f4 := (Nat.le_trans Z0 E2.1)
  obtain ⟨_, _, ⟨T5, L5, k5, n5⟩, -, X5, ⟨Lc5, hQ5, l5, y5, z5⟩, st5⟩ := X2.specialBack hx (y := (⟨"java/util/LinkedHashMap", "<init>", "()V"⟩ : MethodName)) rfl hown (mvT hZ (hw _ (List.mem_of_getElem? (i := 40) rfl))) (mvT hZ (hw _ (List.mem_of_getElem? (i := 41) rfl))) (mvT hZ (hw _ (List.mem_of_getElem? (i := 42) rfl))) (by decide) (backOf (W := 2) (rmLH l Z a0 hw [] b2 ((.float (0 : UInt32))) ((.int (0 : Int32))) ((.int (0 : Int32))) h2 n0 f4 A2 D2_loadFactor D2_putMode D2_accessOrder G2) hZ (hw _ (List.mem_of_getElem? (i := 42) rfl)) (hw _ (List.mem_of_getElem? (i := 39) rfl)) (by decide) (by decide)) (g := (mkF m 9 #[.val (.ref a1), .val (.ref a2)] [(.ref b2), (.ref b2), (.ref a1)])) rfl (by rw [hml]; rfl) (Steps.refl _) (a := b2) (argsL := []) (rest := [(.ref b2), (.ref a1)]) (lenOf pd___V rfl) rfl (by show 2 * 0 + _ ≤ _; exact Nat.le_of_eq rfl) (hb hby d7_9) (fun _ _ => ⟨rfl, e2, (by decide : 1 + 0 ≤ _), (by decide : 12 + 0 ≤ _)⟩)
  dsimp only [Pt.U, Pt.locs, Pt.cells, Pt.slots] at X5 l5 y5 z5 st5 hQ5
  subst l5 y5 z5
  obtain ⟨rfl, Nq5, Kq5⟩ := hQ5
  have N5 := Fr.app N0 Nq5
  have K6 : Keep h0 T5.heap [a1] := K3.trans Kq5 (allS (Or.inr B2) all0)
  refine own_tr st5 ?_
  show own_Go p e below T5 (mkF m 12 #[.val (.ref a1), .val (.ref a2)] [(.ref b2), (.ref a1)]) _
  have f7 := ((pE_a1.ext E2).keep Kq5)
  have f8 := ((pF_methods_a1.ext E2).keep Kq5 (ninS (Nat.ne_of_lt (Nat.lt_of_lt_of_le pE_a1.lt (Nat.le_of_eq g2.symm))) nin0))
  obtain ⟨T9, h9, X9, e9, W9, st9⟩ := putF X5 hx hZ hown (host := "") (Or.inl (hw _ (List.mem_of_getElem? (i := 63) rfl))) Via.refl rfl f8 f7 (Or.inr ⟨(hw _ (List.mem_of_getElem? (i := 64) rfl)), rfl, hnm⟩) (hw _ (List.mem_of_getElem? (i := 31) rfl)) (ty := (.object "java/util/Map")) (by decide) rfl rfl (g := (mkF m 12 #[.val (.ref a1), .val (.ref a2)] [(.ref b2), (.ref a1)])) rfl rfl (hb hby d7_12)
  have F9 := f8.same W9
  have K10 : Keep h0 h9 [a1] := K6.wr W9 (Or.inl (List.mem_of_getElem? (i := 0) rfl))
  have N9 := Fr.snoc X9 N5 pG_a1
  refine own_st st9 ?_
  show own_Go p e below T9 (mkF m 15 #[.val (.ref a1), .val (.ref a2)] []) _
  refine own_st (fun t k => XS.aloadN X9.here hx rfl (hb hby d7_15) rfl rfl k) ?_
  show own_Go p e below T9 (mkF m 16 #[.val (.ref a1), .val (.ref a2)] [(.ref a1)]) _
  have f11 := (Nat.le_trans (Nat.le_trans f4 Kq5.1) (Keep.of_wr W9).1)
  obtain ⟨T12, h12, X12, e12, E12, A12, D12, -, st12⟩ := newO X9 hx hZ hown (hw _ (List.mem_of_getElem? (i := 37) rfl)) (hw _ (List.mem_of_getElem? (i := 38) rfl)) (hw _ (List.mem_of_getElem? (i := 39) rfl)) e9 (g := (mkF m 16 #[.val (.ref a1), .val (.ref a2)] [(.ref a1)])) rfl (hb hby d7_16) (by decide) (by decide)
  obtain ⟨b12, g12⟩ : ∃ z, z = h9.size := ⟨_, rfl⟩
  rw [← g12] at A12 D12 st12
  have G12 : n0 ≤ b12 := Nat.le_trans f11 (Nat.le_of_eq g12.symm)
  have B12 : h0.size ≤ b12 := Nat.le_trans K10.1 (Nat.le_of_eq g12.symm)
  have K13 : Keep h0 h12 [a1] := K10.ext E12
  have D12_loadFactor : Fld Z h12 b12 "java/util/HashMap" "loadFactor" "F" (.float (0 : UInt32)) := D12 (Or.inr (hw _ (List.mem_of_getElem? (i := 58) rfl))) (ty := .float) (by decide)
  have D12_putMode : Fld Z h12 b12 "java/util/LinkedHashMap" "putMode" "I" (.int (0 : Int32)) := D12 (Or.inl (hw _ (List.mem_of_getElem? (i := 60) rfl))) (ty := .int) (by decide)
  have D12_accessOrder : Fld Z h12 b12 "java/util/LinkedHashMap" "accessOrder" "Z" (.int (0 : Int32)) := D12 (Or.inr (hw _ (List.mem_of_getElem? (i := 62) rfl))) (ty := .boolean) (by decide)
  refine own_st st12 ?_
  show own_Go p e below T12 (mkF m 19 #[.val (.ref a1), .val (.ref a2)] [(.ref b12), (.ref a1)]) _
  refine own_st (fun t k => XS.dup X12.here hx rfl (hb hby d7_19) rfl rfl k) ?_
  show own_Go p e below T12 (mkF m 20 #[.val (.ref a1), .val (.ref a2)] [(.ref b12), (.ref b12), (.ref a1)]) _
  have f14 := (Nat.le_trans f11 E12.1)
  obtain ⟨_, _, ⟨T15, L15, k15, n15⟩, -, X15, ⟨Lc15, hQ15, l15, y15, z15⟩, st15⟩ := X12.specialBack hx (y := (⟨"java/util/LinkedHashMap", "<init>", "()V"⟩ : MethodName)) rfl hown (mvT hZ (hw _ (List.mem_of_getElem? (i := 40) rfl))) (mvT hZ (hw _ (List.mem_of_getElem? (i := 41) rfl))) (mvT hZ (hw _ (List.mem_of_getElem? (i := 42) rfl))) (by decide) (backOf (W := 2) (rmLH l Z a0 hw [] b12 ((.float (0 : UInt32))) ((.int (0 : Int32))) ((.int (0 : Int32))) h12 n0 f14 A12 D12_loadFactor D12_putMode D12_accessOrder G12) hZ (hw _ (List.mem_of_getElem? (i := 42) rfl)) (hw _ (List.mem_of_getElem? (i := 39) rfl)) (by decide) (by decide)) (g := (mkF m 20 #[.val (.ref a1), .val (.ref a2)] [(.ref b12), (.ref b12), (.ref a1)])) rfl (by rw [hml]; rfl) (Steps.refl _) (a := b12) (argsL := []) (rest := [(.ref b12), (.ref a1)]) (lenOf pd___V rfl) rfl (by show 2 * 0 + _ ≤ _; exact Nat.le_of_eq rfl) (hb hby d7_20) (fun _ _ => ⟨rfl, e12, (by decide : 2 + 0 ≤ _), (by decide : 24 + 0 ≤ _)⟩)
  dsimp only [Pt.U, Pt.locs, Pt.cells, Pt.slots] at X15 l15 y15 z15 st15 hQ15
  subst l15 y15 z15
  obtain ⟨rfl, Nq15, Kq15⟩ := hQ15
  have N15 := Fr.app N9 Nq15
  have K16 : Keep h0 T15.heap [a1] := K13.trans Kq15 (allS (Or.inr B12) all0)
  refine own_tr st15 ?_
  show own_Go p e below T15 (mkF m 23 #[.val (.ref a1), .val (.ref a2)] [(.ref b12), (.ref a1)]) _
  have f17 := (((f7.wr W9).ext E12).keep Kq15)
  have f18 := (((((pF_attributes_a1.ext E2).keep Kq5 (ninS (Nat.ne_of_lt (Nat.lt_of_lt_of_le pE_a1.lt (Nat.le_of_eq g2.symm))) nin0)).other W9 (Or.inr (slot_ne (Or.inr (hw _ (List.mem_of_getElem? (i := 66) rfl))) (Or.inr (hw _ (List.mem_of_getElem? (i := 64) rfl))) (by decide) (t := (.object "java/util/Map")) (t' := (.object "java/util/Map")) (by decide) (by decide)))).ext E12).keep Kq15 (ninS (Nat.ne_of_lt (Nat.lt_of_lt_of_le (f7.wr W9).lt (Nat.le_of_eq g12.symm))) nin0))
  obtain ⟨T19, h19, X19, e19, W19, st19⟩ := putF X15 hx hZ hown (host := "") (Or.inl (hw _ (List.mem_of_getElem? (i := 65) rfl))) Via.refl rfl f18 f17 (Or.inr ⟨(hw _ (List.mem_of_getElem? (i := 66) rfl)), rfl, hnm⟩) (hw _ (List.mem_of_getElem? (i := 31) rfl)) (ty := (.object "java/util/Map")) (by decide) rfl rfl (g := (mkF m 23 #[.val (.ref a1), .val (.ref a2)] [(.ref b12), (.ref a1)])) rfl rfl (hb hby d7_23)
  have F19 := f18.same W19
  have K20 : Keep h0 h19 [a1] := K16.wr W19 (Or.inl (List.mem_of_getElem? (i := 0) rfl))
  have N19 := Fr.snoc X19 N15 pG_a1
  refine own_st st19 ?_
  show own_Go p e below T19 (mkF m 26 #[.val (.ref a1), .val (.ref a2)] []) _
  refine own_st (fun t k => XS.aloadN X19.here hx rfl (hb hby d7_26) rfl rfl k) ?_
  show own_Go p e below T19 (mkF m 27 #[.val (.ref a1), .val (.ref a2)] [(.ref a1)]) _
  refine own_st (fun t k => XS.aloadN X19.here hx rfl (hb hby d7_27) rfl rfl k) ?_
  show own_Go p e below T19 (mkF m 28 #[.val (.ref a1), .val (.ref a2)] [(.ref a2), (.ref a1)]) _
  have f21 := (f17.wr W19)
  have f22 := ((((((pF_name_a1.ext E2).keep Kq5 (ninS (Nat.ne_of_lt (Nat.lt_of_lt_of_le pE_a1.lt (Nat.le_of_eq g2.symm))) nin0)).other W9 (Or.inr (slot_ne (Or.inr (hw _ (List.mem_of_getElem? (i := 68) rfl))) (Or.inr (hw _ (List.mem_of_getElem? (i := 64) rfl))) (by decide) (t := (.object "java/lang/String")) (t' := (.object "java/util/Map")) (by decide) (by decide)))).ext E12).keep Kq15 (ninS (Nat.ne_of_lt (Nat.lt_of_lt_of_le (f7.wr W9).lt (Nat.le_of_eq g12.symm))) nin0)).other W19 (Or.inr (slot_ne (Or.inr (hw _ (List.mem_of_getElem? (i := 68) rfl))) (Or.inr (hw _ (List.mem_of_getElem? (i := 66) rfl))) (by decide) (t := (.object "java/lang/String")) (t' := (.object "java/util/Map")) (by decide) (by decide))))
  obtain ⟨T23, h23, X23, e23, W23, st23⟩ := putF X19 hx hZ hown (host := "") (Or.inl (hw _ (List.mem_of_getElem? (i := 67) rfl))) Via.refl e19 f22 f21 (Or.inr ⟨(hw _ (List.mem_of_getElem? (i := 68) rfl)), rfl, hnm⟩) (hw _ (List.mem_of_getElem? (i := 31) rfl)) (ty := (.object "java/lang/String")) (by decide) rfl rfl (g := (mkF m 28 #[.val (.ref a1), .val (.ref a2)] [(.ref a2), (.ref a1)])) rfl rfl (hb hby d7_28)
  have F23 := f22.same W23
  have K24 : Keep h0 h23 [a1] := K20.wr W23 (Or.inl (List.mem_of_getElem? (i := 0) rfl))
  have N23 := Fr.snoc X23 N19 pG_a1
  refine own_st st23 ?_
  show own_Go p e below T23 (mkF m 31 #[.val (.ref a1), .val (.ref a2)] []) _
  have f25 := (((((((pF_foreign_a1.ext E2).keep Kq5 (ninS (Nat.ne_of_lt (Nat.lt_of_lt_of_le pE_a1.lt (Nat.le_of_eq g2.symm))) nin0)).other W9 (Or.inr (slot_ne (Or.inl (hw _ (List.mem_of_getElem? (i := 75) rfl))) (Or.inr (hw _ (List.mem_of_getElem? (i := 64) rfl))) (by decide) (t := .boolean) (t' := (.object "java/util/Map")) (by decide) (by decide)))).ext E12).keep Kq15 (ninS (Nat.ne_of_lt (Nat.lt_of_lt_of_le (f7.wr W9).lt (Nat.le_of_eq g12.symm))) nin0)).other W19 (Or.inr (slot_ne (Or.inl (hw _ (List.mem_of_getElem? (i := 75) rfl))) (Or.inr (hw _ (List.mem_of_getElem? (i := 66) rfl))) (by decide) (t := .boolean) (t' := (.object "java/util/Map")) (by decide) (by decide)))).other W23 (Or.inr (slot_ne (Or.inl (hw _ (List.mem_of_getElem? (i := 75) rfl))) (Or.inr (hw _ (List.mem_of_getElem? (i := 68) rfl))) (by decide) (t := .boolean) (t' := (.object "java/lang/String")) (by decide) (by decide))))
  obtain ⟨fs, hr, hrun, hended, hW, hsame⟩ := X23.leave (v := none) (fun _ => rfl)
  refine own_fin (X23.returnOut hx Bd.returns (hb hby d7_31) hr) ⟨hrun, hended, _, _, rfl, ?_, ⟨_, rfl⟩, hW, hsame.mono (by decide) (by decide)⟩
  show Q_rmPC Z a1 a2 u1 u2 u3 f h0 n0 _ T23.heap _
  rw [e23]
  exact ⟨rfl, N23, K24, F23, f25⟩
theorem d11_0 : decode prog_36_method_3_code 0 = .ok (.aload_n 0, 1) := by decide +kernel
theorem d11_1 : decode prog_36_method_3_code 1 = .ok (.getfield 23, 3) := by decide +kernel
theorem d11_4 : decode prog_36_method_3_code 4 = .ok (.ireturn, 1) := by decide +kernel
theorem pn_11 : plainName "com/example/phlow/phlow/policy/PolicyClass" = true := by first | (simp [plainName, overriddenIn]; done) | decide +kernel
theorem ef_rmIF (m : MethodId) (x0 : Addr) : entryFrame m #[(.ref x0)] 1 = mkF m 0 #[.val (.ref x0)] [] := by first | (simp [entryFrame, mkF, argsToLocals, Value.category]; done) | rfl
def Q_rmIF (Z : State) (a1 : Addr) (f : Int32) (h0 : Heap) (n0 : Nat) (v : Option Value) (h : Heap) (L : List Loc) : Prop := v = some (.int f) ∧ Fr n0 L ∧ h = h0
set_option maxRecDepth 65536 in
set_option maxHeartbeats 40000000 in
theorem rmIF (l : Launch) (Z : State) (a0 : Array Value) (hw : ∀ d ∈ tables_1, d.before a0 Z = true) (ws : List Jvm.Cond) (a1 : Addr) (f : Int32) (h0 : Heap) (n0 : Nat) (Z0 : n0 ≤ h0.size) (pF_foreign_a1 : Fld Z h0 a1 "com/example/phlow/phlow/policy/PolicyClass" "foreign" "Z" (.int f)) (hf : nar .boolean f = f) :
    MetFree l (⟨"com/example/phlow/phlow/policy/PolicyClass", "isForeign", "()Z"⟩ : MethodName) (head1 (Jvm.Cond.code (⟨"com/example/phlow/phlow/policy/PolicyClass", "isForeign", "()Z"⟩ : MethodName) prog_36_method_3_code 1 (some .boolean) :: ws) ({ frames := 0, cells := 0, slots := 0, locals := 0 } : Room)) (fun a U => a = #[(.ref a1)] ∧ Z.Warmed39 U.vm ∧ U.heap = h0) (fun _ _ _ _ _ => True) (fun _ U o U' => ∃ v L, o = .returned v ∧ Q_rmIF Z a1 f h0 n0 v U'.heap L ∧ FrameEnd U o U' L ({ frames := 0, cells := 0, slots := 0, locals := 0 } : Room).cells ({ frames := 0, cells := 0, slots := 0, locals := 0 } : Room).slots) := by
  refine MetFree.of_bodySF (plainFor_of_name pn_11) hisR ?_
  intro p e s m args below meth c s₁ Bd hml0 hP hK
  obtain ⟨rfl, hZ, hh⟩ := hP
  have hx := Bd.exec
  have hby := Bd.bytes
  have hml : c.maxLocals = 1 := hml0
  have hown : s.vm.findClass "com/example/phlow/phlow/policy/PolicyClass" = some m.cls := findClass_of_methodNamed Bd.named
  have hnm := (name_of_methodNamed Bd.named Bd.method).1
  have X0 : Stand p l e ({ frames := 0, cells := 0, slots := 0, locals := 0 } : Room) s m #[(.ref a1)] below meth c s₁ [] 0 0 := Stand.of_body Bd
  have e0 : s₁.heap = h0 := by rw [← hh, Bd.state]; rfl
  have N0 := Fr.nil n0
  refine own_enter (ef_rmIF m a1) ?_
  refine own_st (fun t k => XS.aloadN X0.here hx rfl (hb hby d11_0) rfl rfl k) ?_
  show own_Go p e below s₁ (mkF m 1 #[.val (.ref a1)] [(.ref a1)]) _
  obtain ⟨T1, X1, e1, st1⟩ := getF X0 hx hZ hown (host := "") (Or.inl (hw _ (List.mem_of_getElem? (i := 74) rfl))) Via.refl e0 pF_foreign_a1 (g := (mkF m 1 #[.val (.ref a1)] [(.ref a1)])) rfl rfl (hb hby d11_1)
  refine own_st st1 ?_
  show own_Go p e below T1 (mkF m 4 #[.val (.ref a1)] [(.int f)]) _
  obtain ⟨fs, hr, hrun, hended, hW, hsame⟩ := X1.leave (v := some (.int f)) (fun h => by rw [Bd.returns] at h; cases h)
  refine own_fin (retN X1 hx (t := .boolean) Bd.returns (by simp) (hb hby d11_4) (by rw [hf]; exact hr)) ⟨hrun, hended, _, _, rfl, ?_, ⟨_, rfl⟩, hW, hsame.mono (by decide) (by decide)⟩
  show Q_rmIF Z a1 f h0 n0 _ T1.heap _
  rw [e1]
  exact ⟨rfl, N0, rfl⟩
theorem d12_0 : decode prog_36_method_10_code 0 = .ok (.aload_n 0, 1) := by decide +kernel
theorem d12_1 : decode prog_36_method_10_code 1 = .ok (.getfield 23, 3) := by decide +kernel
theorem d12_4 : decode prog_36_method_10_code 4 = .ok (.istore_n 1, 1) := by decide +kernel
theorem d12_5 : decode prog_36_method_10_code 5 = .ok (.aload_n 0, 1) := by decide +kernel
theorem d12_6 : decode prog_36_method_10_code 6 = .ok (.iconst 1, 1) := by decide +kernel
theorem d12_7 : decode prog_36_method_10_code 7 = .ok (.putfield 23, 3) := by decide +kernel
theorem d12_10 : decode prog_36_method_10_code 10 = .ok (.iload_n 1, 1) := by decide +kernel
theorem d12_11 : decode prog_36_method_10_code 11 = .ok (.ifCond .ne 7, 3) := by decide +kernel
theorem d12_14 : decode prog_36_method_10_code 14 = .ok (.iconst 1, 1) := by decide +kernel
theorem d12_15 : decode prog_36_method_10_code 15 = .ok (.goto 4, 3) := by decide +kernel
theorem d12_19 : decode prog_36_method_10_code 19 = .ok (.ireturn, 1) := by decide +kernel
theorem pn_12 : plainName "com/example/phlow/phlow/policy/PolicyClass" = true := by first | (simp [plainName, overriddenIn]; done) | decide +kernel
theorem ef_rmMF0 (m : MethodId) (x0 : Addr) : entryFrame m #[(.ref x0)] 2 = mkF m 0 #[.val (.ref x0), .unset] [] := by first | (simp [entryFrame, mkF, argsToLocals, Value.category]; done) | rfl
def Q_rmMF0 (Z : State) (a1 : Addr) (a2 : Addr) (h0 : Heap) (n0 : Nat) (v : Option Value) (h : Heap) (L : List Loc) : Prop := v = some (.int (1 : Int32)) ∧ Fr n0 L ∧ Keep h0 h [a1] ∧ Fld Z h a1 "com/example/phlow/phlow/policy/PolicyClass" "foreign" "Z" (.int (1 : Int32)) ∧ Fld Z h a1 "com/example/phlow/phlow/policy/PolicyClass" "name" "Ljava/lang/String;" (.ref a2)
set_option maxRecDepth 65536 in
set_option maxHeartbeats 40000000 in
theorem rmMF0 (l : Launch) (Z : State) (a0 : Array Value) (hw : ∀ d ∈ tables_1, d.before a0 Z = true) (ws : List Jvm.Cond) (a1 : Addr) (a2 : Addr) (h0 : Heap) (n0 : Nat) (Z0 : n0 ≤ h0.size) (pE_a1 : Exa Z h0 a1 "com/example/phlow/phlow/policy/PolicyClass") (pF_foreign_a1 : Fld Z h0 a1 "com/example/phlow/phlow/policy/PolicyClass" "foreign" "Z" (.int (0 : Int32))) (pF_name_a1 : Fld Z h0 a1 "com/example/phlow/phlow/policy/PolicyClass" "name" "Ljava/lang/String;" (.ref a2)) (pG_a1 : n0 ≤ a1) :
    MetFree l (⟨"com/example/phlow/phlow/policy/PolicyClass", "markForeign", "()Z"⟩ : MethodName) (head1 (Jvm.Cond.code (⟨"com/example/phlow/phlow/policy/PolicyClass", "markForeign", "()Z"⟩ : MethodName) prog_36_method_10_code 2 (some .boolean) :: ws) ({ frames := 0, cells := 0, slots := 0, locals := 0 } : Room)) (fun a U => a = #[(.ref a1)] ∧ Z.Warmed39 U.vm ∧ U.heap = h0) (fun _ _ _ _ _ => True) (fun _ U o U' => ∃ v L, o = .returned v ∧ Q_rmMF0 Z a1 a2 h0 n0 v U'.heap L ∧ FrameEnd U o U' L ({ frames := 0, cells := 0, slots := 0, locals := 0 } : Room).cells ({ frames := 0, cells := 0, slots := 0, locals := 0 } : Room).slots) := by
  refine MetFree.of_bodySF (plainFor_of_name pn_12) hisR ?_
  intro p e s m args below meth c s₁ Bd hml0 hP hK
  obtain ⟨rfl, hZ, hh⟩ := hP
  have hx := Bd.exec
  have hby := Bd.bytes
  have hml : c.maxLocals = 2 := hml0
  have hown : s.vm.findClass "com/example/phlow/phlow/policy/PolicyClass" = some m.cls := findClass_of_methodNamed Bd.named
  have hnm := (name_of_methodNamed Bd.named Bd.method).1
  have X0 : Stand p l e ({ frames := 0, cells := 0, slots := 0, locals := 0 } : Room) s m #[(.ref a1)] below meth c s₁ [] 0 0 := Stand.of_body Bd
  have e0 : s₁.heap = h0 := by rw [← hh, Bd.state]; rfl
  have N0 := Fr.nil n0
  refine own_enter (ef_rmMF0 m a1) ?_
  refine own_st (fun t k => XS.aloadN X0.here hx rfl (hb hby d12_0) rfl rfl k) ?_
  show own_Go p e below s₁ (mkF m 1 #[.val (.ref a1), .unset] [(.ref a1)]) _
  obtain ⟨T1, X1, e1, st1⟩ := getF X0 hx hZ hown (host := "") (Or.inl (hw _ (List.mem_of_getElem? (i := 74) rfl))) Via.refl e0 pF_foreign_a1 (g := (mkF m 1 #[.val (.ref a1), .unset] [(.ref a1)])) rfl rfl (hb hby d12_1)
  refine own_st st1 ?_
  show own_Go p e below T1 (mkF m 4 #[.val (.ref a1), .unset] [(.int (0 : Int32))]) _
  refine own_st (fun t k => XS.istoreN X1.here hx rfl (hb hby d12_4) rfl (l' := #[.val (.ref a1), .val (.int (0 : Int32))]) rfl k) ?_
  show own_Go p e below T1 (mkF m 5 #[.val (.ref a1), .val (.int (0 : Int32))] []) _
  refine own_st (fun t k => XS.aloadN X1.here hx rfl (hb hby d12_5) rfl rfl k) ?_
  show own_Go p e below T1 (mkF m 6 #[.val (.ref a1), .val (.int (0 : Int32))] [(.ref a1)]) _
  refine own_st (fun t k => XS.iconst X1.here hx rfl (hb hby d12_6) k) ?_
  show own_Go p e below T1 (mkF m 7 #[.val (.ref a1), .val (.int (0 : Int32))] [(.int (1 : Int32)), (.ref a1)]) _
  obtain ⟨T2, h2, X2, e2, W2, st2⟩ := putFN X1 hx hZ hown (hw _ (List.mem_of_getElem? (i := 74) rfl)) Via.refl e1 pF_foreign_a1 pE_a1 (Or.inl (hw _ (List.mem_of_getElem? (i := 75) rfl))) (hw _ (List.mem_of_getElem? (i := 31) rfl)) (ty := .boolean) (v' := (.int (1 : Int32))) (by decide) rfl (by decide) (g := (mkF m 7 #[.val (.ref a1), .val (.int (0 : Int32))] [(.int (1 : Int32)), (.ref a1)])) rfl rfl (hb hby d12_7)
  have F2 := pF_foreign_a1.same W2
  have K3 : Keep h0 h2 [a1] := (Keep.refl h0 [a1]).wr W2 (Or.inl (List.mem_of_getElem? (i := 0) rfl))
  have N2 := Fr.snoc X2 N0 pG_a1
  refine own_st st2 ?_
  show own_Go p e below T2 (mkF m 10 #[.val (.ref a1), .val (.int (0 : Int32))] []) _
  refine own_st (fun t k => XS.iloadN X2.here hx rfl (hb hby d12_10) rfl k) ?_
  show own_Go p e below T2 (mkF m 11 #[.val (.ref a1), .val (.int (0 : Int32))] [(.int (0 : Int32))]) _
  refine own_st (fun t k => XS.ifNo X2.here hx rfl (hb hby d12_11) rfl (by decide) k) ?_
  show own_Go p e below T2 (mkF m 14 #[.val (.ref a1), .val (.int (0 : Int32))] []) _
  refine own_st (fun t k => XS.iconst X2.here hx rfl (hb hby d12_14) k) ?_
  show own_Go p e below T2 (mkF m 15 #[.val (.ref a1), .val (.int (0 : Int32))] [(.int (1 : Int32))]) _
  refine own_st (fun t k => XS.goto X2.here hx rfl (pc0 := 15) (pc' := 19) rfl (hb hby d12_15) (by decide) (by decide) k) ?_
  show own_Go p e below T2 (mkF m 19 #[.val (.ref a1), .val (.int (0 : Int32))] [(.int (1 : Int32))]) _
  have f4 := (pF_name_a1.other W2 (Or.inr (slot_ne (Or.inr (hw _ (List.mem_of_getElem? (i := 68) rfl))) (Or.inl (hw _ (List.mem_of_getElem? (i := 75) rfl))) (by decide) (t := (.object "java/lang/String")) (t' := .boolean) (by decide) (by decide))))
  obtain ⟨fs, hr, hrun, hended, hW, hsame⟩ := X2.leave (v := some (.int (1 : Int32))) (fun h => by rw [Bd.returns] at h; cases h)
  refine own_fin (retN X2 hx (t := .boolean) Bd.returns (by simp) (hb hby d12_19) hr) ⟨hrun, hended, _, _, rfl, ?_, ⟨_, rfl⟩, hW, hsame.mono (by decide) (by decide)⟩
  show Q_rmMF0 Z a1 a2 h0 n0 _ T2.heap _
  rw [e2]
  exact ⟨rfl, N2, K3, F2, f4⟩
theorem d12_18 : decode prog_36_method_10_code 18 = .ok (.iconst 0, 1) := by decide +kernel
theorem ef_rmMF1 (m : MethodId) (x0 : Addr) : entryFrame m #[(.ref x0)] 2 = mkF m 0 #[.val (.ref x0), .unset] [] := by first | (simp [entryFrame, mkF, argsToLocals, Value.category]; done) | rfl
def Q_rmMF1 (Z : State) (a1 : Addr) (a2 : Addr) (h0 : Heap) (n0 : Nat) (v : Option Value) (h : Heap) (L : List Loc) : Prop := v = some (.int (0 : Int32)) ∧ Fr n0 L ∧ Keep h0 h [a1] ∧ Fld Z h a1 "com/example/phlow/phlow/policy/PolicyClass" "foreign" "Z" (.int (1 : Int32)) ∧ Fld Z h a1 "com/example/phlow/phlow/policy/PolicyClass" "name" "Ljava/lang/String;" (.ref a2)
set_option maxRecDepth 65536 in
set_option maxHeartbeats 40000000 in
theorem rmMF1 (l : Launch) (Z : State) (a0 : Array Value) (hw : ∀ d ∈ tables_1, d.before a0 Z = true) (ws : List Jvm.Cond) (a1 : Addr) (a2 : Addr) (h0 : Heap) (n0 : Nat) (Z0 : n0 ≤ h0.size) (pE_a1 : Exa Z h0 a1 "com/example/phlow/phlow/policy/PolicyClass") (pF_foreign_a1 : Fld Z h0 a1 "com/example/phlow/phlow/policy/PolicyClass" "foreign" "Z" (.int (1 : Int32))) (pF_name_a1 : Fld Z h0 a1 "com/example/phlow/phlow/policy/PolicyClass" "name" "Ljava/lang/String;" (.ref a2)) (pG_a1 : n0 ≤ a1) :
    MetFree l (⟨"com/example/phlow/phlow/policy/PolicyClass", "markForeign", "()Z"⟩ : MethodName) (head1 (Jvm.Cond.code (⟨"com/example/phlow/phlow/policy/PolicyClass", "markForeign", "()Z"⟩ : MethodName) prog_36_method_10_code 2 (some .boolean) :: ws) ({ frames := 0, cells := 0, slots := 0, locals := 0 } : Room)) (fun a U => a = #[(.ref a1)] ∧ Z.Warmed39 U.vm ∧ U.heap = h0) (fun _ _ _ _ _ => True) (fun _ U o U' => ∃ v L, o = .returned v ∧ Q_rmMF1 Z a1 a2 h0 n0 v U'.heap L ∧ FrameEnd U o U' L ({ frames := 0, cells := 0, slots := 0, locals := 0 } : Room).cells ({ frames := 0, cells := 0, slots := 0, locals := 0 } : Room).slots) := by
  refine MetFree.of_bodySF (plainFor_of_name pn_12) hisR ?_
  intro p e s m args below meth c s₁ Bd hml0 hP hK
  obtain ⟨rfl, hZ, hh⟩ := hP
  have hx := Bd.exec
  have hby := Bd.bytes
  have hml : c.maxLocals = 2 := hml0
  have hown : s.vm.findClass "com/example/phlow/phlow/policy/PolicyClass" = some m.cls := findClass_of_methodNamed Bd.named
  have hnm := (name_of_methodNamed Bd.named Bd.method).1
  have X0 : Stand p l e ({ frames := 0, cells := 0, slots := 0, locals := 0 } : Room) s m #[(.ref a1)] below meth c s₁ [] 0 0 := Stand.of_body Bd
  have e0 : s₁.heap = h0 := by rw [← hh, Bd.state]; rfl
  have N0 := Fr.nil n0
  refine own_enter (ef_rmMF1 m a1) ?_
  refine own_st (fun t k => XS.aloadN X0.here hx rfl (hb hby d12_0) rfl rfl k) ?_
  show own_Go p e below s₁ (mkF m 1 #[.val (.ref a1), .unset] [(.ref a1)]) _
  obtain ⟨T1, X1, e1, st1⟩ := getF X0 hx hZ hown (host := "") (Or.inl (hw _ (List.mem_of_getElem? (i := 74) rfl))) Via.refl e0 pF_foreign_a1 (g := (mkF m 1 #[.val (.ref a1), .unset] [(.ref a1)])) rfl rfl (hb hby d12_1)
  refine own_st st1 ?_
  show own_Go p e below T1 (mkF m 4 #[.val (.ref a1), .unset] [(.int (1 : Int32))]) _
  refine own_st (fun t k => XS.istoreN X1.here hx rfl (hb hby d12_4) rfl (l' := #[.val (.ref a1), .val (.int (1 : Int32))]) rfl k) ?_
  show own_Go p e below T1 (mkF m 5 #[.val (.ref a1), .val (.int (1 : Int32))] []) _
  refine own_st (fun t k => XS.aloadN X1.here hx rfl (hb hby d12_5) rfl rfl k) ?_
  show own_Go p e below T1 (mkF m 6 #[.val (.ref a1), .val (.int (1 : Int32))] [(.ref a1)]) _
  refine own_st (fun t k => XS.iconst X1.here hx rfl (hb hby d12_6) k) ?_
  show own_Go p e below T1 (mkF m 7 #[.val (.ref a1), .val (.int (1 : Int32))] [(.int (1 : Int32)), (.ref a1)]) _
  obtain ⟨T2, h2, X2, e2, W2, st2⟩ := putFN X1 hx hZ hown (hw _ (List.mem_of_getElem? (i := 74) rfl)) Via.refl e1 pF_foreign_a1 pE_a1 (Or.inl (hw _ (List.mem_of_getElem? (i := 75) rfl))) (hw _ (List.mem_of_getElem? (i := 31) rfl)) (ty := .boolean) (v' := (.int (1 : Int32))) (by decide) rfl (by decide) (g := (mkF m 7 #[.val (.ref a1), .val (.int (1 : Int32))] [(.int (1 : Int32)), (.ref a1)])) rfl rfl (hb hby d12_7)
  have F2 := pF_foreign_a1.same W2
  have K3 : Keep h0 h2 [a1] := (Keep.refl h0 [a1]).wr W2 (Or.inl (List.mem_of_getElem? (i := 0) rfl))
  have N2 := Fr.snoc X2 N0 pG_a1
  refine own_st st2 ?_
  show own_Go p e below T2 (mkF m 10 #[.val (.ref a1), .val (.int (1 : Int32))] []) _
  refine own_st (fun t k => XS.iloadN X2.here hx rfl (hb hby d12_10) rfl k) ?_
  show own_Go p e below T2 (mkF m 11 #[.val (.ref a1), .val (.int (1 : Int32))] [(.int (1 : Int32))]) _
  refine own_st (fun t k => XS.ifYes X2.here hx rfl (pc0 := 11) (pc' := 18) rfl (hb hby d12_11) rfl (by decide) (by decide) (by decide) k) ?_
  show own_Go p e below T2 (mkF m 18 #[.val (.ref a1), .val (.int (1 : Int32))] []) _
  refine own_st (fun t k => XS.iconst X2.here hx rfl (hb hby d12_18) k) ?_
  show own_Go p e below T2 (mkF m 19 #[.val (.ref a1), .val (.int (1 : Int32))] [(.int (0 : Int32))]) _
  have f4 := (pF_name_a1.other W2 (Or.inr (slot_ne (Or.inr (hw _ (List.mem_of_getElem? (i := 68) rfl))) (Or.inl (hw _ (List.mem_of_getElem? (i := 75) rfl))) (by decide) (t := (.object "java/lang/String")) (t' := .boolean) (by decide) (by decide))))
  obtain ⟨fs, hr, hrun, hended, hW, hsame⟩ := X2.leave (v := some (.int (0 : Int32))) (fun h => by rw [Bd.returns] at h; cases h)
  refine own_fin (retN X2 hx (t := .boolean) Bd.returns (by simp) (hb hby d12_19) hr) ⟨hrun, hended, _, _, rfl, ?_, ⟨_, rfl⟩, hW, hsame.mono (by decide) (by decide)⟩
  show Q_rmMF1 Z a1 a2 h0 n0 _ T2.heap _
  rw [e2]
  exact ⟨rfl, N2, K3, F2, f4⟩
theorem d13_0 : decode prog_36_method_2_code 0 = .ok (.aload_n 0, 1) := by decide +kernel
theorem d13_1 : decode prog_36_method_2_code 1 = .ok (.getfield 19, 3) := by decide +kernel
theorem d13_4 : decode prog_36_method_2_code 4 = .ok (.areturn, 1) := by decide +kernel
theorem pn_13 : plainName "com/example/phlow/phlow/policy/PolicyClass" = true := by first | (simp [plainName, overriddenIn]; done) | decide +kernel
theorem ef_rmNM (m : MethodId) (x0 : Addr) : entryFrame m #[(.ref x0)] 1 = mkF m 0 #[.val (.ref x0)] [] := by first | (simp [entryFrame, mkF, argsToLocals, Value.category]; done) | rfl
def Q_rmNM (Z : State) (a1 : Addr) (a2 : Addr) (h0 : Heap) (n0 : Nat) (v : Option Value) (h : Heap) (L : List Loc) : Prop := v = some (.ref a2) ∧ Fr n0 L ∧ h = h0
set_option maxRecDepth 65536 in
set_option maxHeartbeats 40000000 in
theorem rmNM (l : Launch) (Z : State) (a0 : Array Value) (hw : ∀ d ∈ tables_1, d.before a0 Z = true) (ws : List Jvm.Cond) (a1 : Addr) (a2 : Addr) (h0 : Heap) (n0 : Nat) (Z0 : n0 ≤ h0.size) (pF_name_a1 : Fld Z h0 a1 "com/example/phlow/phlow/policy/PolicyClass" "name" "Ljava/lang/String;" (.ref a2)) :
    MetFree l (⟨"com/example/phlow/phlow/policy/PolicyClass", "name", "()Ljava/lang/String;"⟩ : MethodName) (head1 (Jvm.Cond.code (⟨"com/example/phlow/phlow/policy/PolicyClass", "name", "()Ljava/lang/String;"⟩ : MethodName) prog_36_method_2_code 1 (some (.object "java/lang/String")) :: ws) ({ frames := 0, cells := 0, slots := 0, locals := 0 } : Room)) (fun a U => a = #[(.ref a1)] ∧ Z.Warmed39 U.vm ∧ U.heap = h0) (fun _ _ _ _ _ => True) (fun _ U o U' => ∃ v L, o = .returned v ∧ Q_rmNM Z a1 a2 h0 n0 v U'.heap L ∧ FrameEnd U o U' L ({ frames := 0, cells := 0, slots := 0, locals := 0 } : Room).cells ({ frames := 0, cells := 0, slots := 0, locals := 0 } : Room).slots) := by
  refine MetFree.of_bodySF (plainFor_of_name pn_13) hisR ?_
  intro p e s m args below meth c s₁ Bd hml0 hP hK
  obtain ⟨rfl, hZ, hh⟩ := hP
  have hx := Bd.exec
  have hby := Bd.bytes
  have hml : c.maxLocals = 1 := hml0
  have hown : s.vm.findClass "com/example/phlow/phlow/policy/PolicyClass" = some m.cls := findClass_of_methodNamed Bd.named
  have hnm := (name_of_methodNamed Bd.named Bd.method).1
  have X0 : Stand p l e ({ frames := 0, cells := 0, slots := 0, locals := 0 } : Room) s m #[(.ref a1)] below meth c s₁ [] 0 0 := Stand.of_body Bd
  have e0 : s₁.heap = h0 := by rw [← hh, Bd.state]; rfl
  have N0 := Fr.nil n0
  refine own_enter (ef_rmNM m a1) ?_
  refine own_st (fun t k => XS.aloadN X0.here hx rfl (hb hby d13_0) rfl rfl k) ?_
  show own_Go p e below s₁ (mkF m 1 #[.val (.ref a1)] [(.ref a1)]) _
  obtain ⟨T1, X1, e1, st1⟩ := getF X0 hx hZ hown (host := "") (Or.inl (hw _ (List.mem_of_getElem? (i := 67) rfl))) Via.refl e0 pF_name_a1 (g := (mkF m 1 #[.val (.ref a1)] [(.ref a1)])) rfl rfl (hb hby d13_1)
  refine own_st st1 ?_
  show own_Go p e below T1 (mkF m 4 #[.val (.ref a1)] [(.ref a2)]) _
  obtain ⟨fs, hr, hrun, hended, hW, hsame⟩ := X1.leave (v := some (.ref a2)) (fun h => by rw [Bd.returns] at h; cases h)
  refine own_fin (own_retR X1 hx rfl Bd.returns rfl (hb hby d13_4) hr) ⟨hrun, hended, _, _, rfl, ?_, ⟨_, rfl⟩, hW, hsame.mono (by decide) (by decide)⟩
  show Q_rmNM Z a1 a2 h0 n0 _ T1.heap _
  rw [e1]
  exact ⟨rfl, N0, rfl⟩
theorem pn_0 : plainName "com/example/phlow/phlow/policy/PolicyClassMarkForeignPinLaw" = true := by first | (simp [plainName, overriddenIn]; done) | decide +kernel
theorem pd___C_V : parseMethodDescriptor "([C)V" = some ⟨[(.array .char)], none⟩ := by decide +kernel
theorem pd__Ljava_lang_String__V : parseMethodDescriptor "(Ljava/lang/String;)V" = some ⟨[(.object "java/lang/String")], none⟩ := by decide +kernel
theorem pd___Z : parseMethodDescriptor "()Z" = some ⟨[], some .boolean⟩ := by decide +kernel
theorem pd___Ljava_lang_String_ : parseMethodDescriptor "()Ljava/lang/String;" = some ⟨[], some (.object "java/lang/String")⟩ := by decide +kernel
theorem ef_rmLaw0 (m : MethodId) (x0 : Int32) (x1 : Int32) (x2 : Int32) : entryFrame m #[(.int x0), (.int x1), (.int x2)] maxLocals = mkF m 0 #[.val (.int x0), .val (.int x1), .val (.int x2), .unset, .unset, .unset, .unset, .unset, .unset, .unset] [] := by first | (simp [entryFrame, mkF, argsToLocals, Value.category, maxLocals]; done) | rfl
def Q_rmLaw0 (Z : State) (p0 : Int32) (p1 : Int32) (p2 : Int32) (zc : Int32) (h0 : Heap) (n0 : Nat) (v : Option Value) (h : Heap) (L : List Loc) : Prop := v = some (.int (1 : Int32)) ∧ Fr n0 L ∧ Keep h0 h []
set_option maxRecDepth 65536 in
set_option maxHeartbeats 40000000 in
theorem rmLaw0 (l : Launch) (Z : State) (a0 : Array Value) (hw : ∀ d ∈ tables_1, d.before a0 Z = true) (ws : List Jvm.Cond) (p0 : Int32) (p1 : Int32) (p2 : Int32) (zc : Int32) (h0 : Heap) (n0 : Nat) (Z0 : n0 ≤ h0.size) (pS_COMPACT_STRINGS : Sta Z Z.heap "java/lang/String" "COMPACT_STRINGS" "Z" (.int zc)) (pP5 : ¬ (zc = (0 : Int32))) (pO : Old Z n0 h0) (hpre : p2 &&& (3 : Int32) = (0 : Int32)) :
    MetFree l x (head1 (Jvm.Cond.code x code maxLocals ret :: ws) room_1) (fun a U => a = #[(.int p0), (.int p1), (.int p2)] ∧ Z.Warmed39 U.vm ∧ U.heap = h0) (fun _ _ _ _ _ => True) (fun _ U o U' => ∃ v L, o = .returned v ∧ Q_rmLaw0 Z p0 p1 p2 zc h0 n0 v U'.heap L ∧ FrameEnd U o U' L 24 192) := by
  refine MetFree.of_bodySF (plainFor_of_name pn_0) hisR ?_
  intro p e s m args below meth c s₁ Bd hml0 hP hK
  obtain ⟨rfl, hZ, hh⟩ := hP
  have hx := Bd.exec
  have hby := Bd.bytes
  have hml : c.maxLocals = 10 := hml0
  have hown : s.vm.findClass "com/example/phlow/phlow/policy/PolicyClassMarkForeignPinLaw" = some m.cls := findClass_of_methodNamed Bd.named
  have hnm := (name_of_methodNamed Bd.named Bd.method).1
  have X0 : Stand p l e room_1 s m #[(.int p0), (.int p1), (.int p2)] below meth c s₁ [] 0 0 := Stand.of_body Bd
  have e0 : s₁.heap = h0 := by rw [← hh, Bd.state]; rfl
  have N0 := Fr.nil n0
  refine own_enter (ef_rmLaw0 m p0 p1 p2) ?_
  have hws : ∀ d ∈ StrChars.Road.words, d.before a0 Z = true := fun d hd => hw d ((by decide +kernel : ∀ d ∈ StrChars.Road.words, d ∈ tables_1) d hd)
  refine own_st (fun t k => XS.iconst X0.here hx rfl (hb hby at_0) k) ?_
  show own_Go p e below s₁ (mkF m 1 #[.val (.int p0), .val (.int p1), .val (.int p2), .unset, .unset, .unset, .unset, .unset, .unset, .unset] [(.int (2 : Int32))]) _
  obtain ⟨T1, h1, k1, X1, e1, E1, A1, st1⟩ := newP X0 hx hZ (hw _ (List.mem_of_getElem? (i := 0) rfl)) e0 (g := (mkF m 1 #[.val (.int p0), .val (.int p1), .val (.int p2), .unset, .unset, .unset, .unset, .unset, .unset, .unset] [(.int (2 : Int32))])) rfl (hb hby at_1) rfl (by decide) (cap := 2) (by decide) (by decide) (by decide) (by decide)
  obtain ⟨b1, g1⟩ : ∃ z, z = h0.size := ⟨_, rfl⟩
  rw [← g1] at A1 st1
  have G1 : n0 ≤ b1 := Nat.le_trans Z0 (Nat.le_of_eq g1.symm)
  have B1 : h0.size ≤ b1 := Nat.le_trans (Keep.refl h0 []).1 (Nat.le_of_eq g1.symm)
  have K2 : Keep h0 h1 [] := (Keep.refl h0 []).ext E1
  have V1 : Arv Z h1 b1 k1 .char (2 : Int32) [(.int (0 : Int32)), (.int (0 : Int32))] (.int (0 : Int32)) := (Arv.new A1 (by decide)).pad (pad_rep [] (.int (0 : Int32)) 2)
  refine own_st st1 ?_
  show own_Go p e below T1 (mkF m 3 #[.val (.int p0), .val (.int p1), .val (.int p2), .unset, .unset, .unset, .unset, .unset, .unset, .unset] [(.ref b1)]) _
  refine own_st (fun t k => XS.astoreN X1.here hx rfl (hb hby at_3) rfl rfl (l' := #[.val (.int p0), .val (.int p1), .val (.int p2), .val (.ref b1), .unset, .unset, .unset, .unset, .unset, .unset]) rfl k) ?_
  show own_Go p e below T1 (mkF m 4 #[.val (.int p0), .val (.int p1), .val (.int p2), .val (.ref b1), .unset, .unset, .unset, .unset, .unset, .unset] []) _
  refine own_st (fun t k => XS.aloadN X1.here hx rfl (hb hby at_4) rfl rfl k) ?_
  show own_Go p e below T1 (mkF m 5 #[.val (.int p0), .val (.int p1), .val (.int p2), .val (.ref b1), .unset, .unset, .unset, .unset, .unset, .unset] [(.ref b1)]) _
  refine own_st (fun t k => XS.iconst X1.here hx rfl (hb hby at_5) k) ?_
  show own_Go p e below T1 (mkF m 6 #[.val (.int p0), .val (.int p1), .val (.int p2), .val (.ref b1), .unset, .unset, .unset, .unset, .unset, .unset] [(.int (0 : Int32)), (.ref b1)]) _
  refine own_st (fun t k => XS.iloadN X1.here hx rfl (hb hby at_6) rfl k) ?_
  show own_Go p e below T1 (mkF m 7 #[.val (.int p0), .val (.int p1), .val (.int p2), .val (.ref b1), .unset, .unset, .unset, .unset, .unset, .unset] [(.int p0), (.int (0 : Int32)), (.ref b1)]) _
  refine own_st (fun t k => XS.sipush X1.here hx rfl (hb hby at_7) k) ?_
  show own_Go p e below T1 (mkF m 10 #[.val (.int p0), .val (.int p1), .val (.int p2), .val (.ref b1), .unset, .unset, .unset, .unset, .unset, .unset] [(.int (255 : Int32)), (.int p0), (.int (0 : Int32)), (.ref b1)]) _
  refine own_st (fun t k => XS.iand X1.here hx rfl (hb hby at_10) rfl k) ?_
  show own_Go p e below T1 (mkF m 11 #[.val (.int p0), .val (.int p1), .val (.int p2), .val (.ref b1), .unset, .unset, .unset, .unset, .unset, .unset] [(.int (p0 &&& (255 : Int32))), (.int (0 : Int32)), (.ref b1)]) _
  refine own_st (fun t k => XS.i2c X1.here hx rfl (hb hby at_11) rfl k) ?_
  show own_Go p e below T1 (mkF m 12 #[.val (.int p0), .val (.int p1), .val (.int p2), .val (.ref b1), .unset, .unset, .unset, .unset, .unset, .unset] [(.int ((p0 &&& (255 : Int32)).toUInt32.toUInt16.toUInt32.toInt32)), (.int (0 : Int32)), (.ref b1)]) _
  obtain ⟨cl3, Ar3, q3, Sz3, Nn3, Hh3, Gg3⟩ := V1
  have hin3 : ¬ ((0 : Int32) < 0 ∨ cl3.slots.size ≤ ((0 : Int32)).toNatClampNeg) := inb_of Sz3 ⟨by decide, by decide⟩
  obtain ⟨T4, h4, X4, e4, W4, st4⟩ := stC X1 hx hZ e1 Ar3 (j := (0 : Int32)) hin3 (g := (mkF m 12 #[.val (.int p0), .val (.int p1), .val (.int p2), .val (.ref b1), .unset, .unset, .unset, .unset, .unset, .unset] [(.int ((p0 &&& (255 : Int32)).toUInt32.toUInt16.toUInt32.toInt32)), (.int (0 : Int32)), (.ref b1)])) rfl rfl (hb hby at_12)
  have V4 : Arv Z h4 b1 k1 .char (2 : Int32) [(.int (nar .char ((p0 &&& (255 : Int32)).toUInt32.toUInt16.toUInt32.toInt32))), (.int (0 : Int32))] (.int (0 : Int32)) := Arv.set Ar3 q3 Sz3 Nn3 Hh3 Gg3 (fits_nar_char _) W4 0 rfl (Nat.le_of_ble_eq_true rfl)
  have K5 : Keep h0 h4 [] := K2.wr W4 (Or.inr B1)
  have N4 := Fr.snoc X4 N0 G1
  refine own_st st4 ?_
  show own_Go p e below T4 (mkF m 13 #[.val (.int p0), .val (.int p1), .val (.int p2), .val (.ref b1), .unset, .unset, .unset, .unset, .unset, .unset] []) _
  refine own_st (fun t k => XS.aloadN X4.here hx rfl (hb hby at_13) rfl rfl k) ?_
  show own_Go p e below T4 (mkF m 14 #[.val (.int p0), .val (.int p1), .val (.int p2), .val (.ref b1), .unset, .unset, .unset, .unset, .unset, .unset] [(.ref b1)]) _
  refine own_st (fun t k => XS.iconst X4.here hx rfl (hb hby at_14) k) ?_
  show own_Go p e below T4 (mkF m 15 #[.val (.int p0), .val (.int p1), .val (.int p2), .val (.ref b1), .unset, .unset, .unset, .unset, .unset, .unset] [(.int (1 : Int32)), (.ref b1)]) _
  refine own_st (fun t k => XS.iloadN X4.here hx rfl (hb hby at_15) rfl k) ?_
  show own_Go p e below T4 (mkF m 16 #[.val (.int p0), .val (.int p1), .val (.int p2), .val (.ref b1), .unset, .unset, .unset, .unset, .unset, .unset] [(.int p1), (.int (1 : Int32)), (.ref b1)]) _
  refine own_st (fun t k => XS.sipush X4.here hx rfl (hb hby at_16) k) ?_
  show own_Go p e below T4 (mkF m 19 #[.val (.int p0), .val (.int p1), .val (.int p2), .val (.ref b1), .unset, .unset, .unset, .unset, .unset, .unset] [(.int (255 : Int32)), (.int p1), (.int (1 : Int32)), (.ref b1)]) _
  refine own_st (fun t k => XS.iand X4.here hx rfl (hb hby at_19) rfl k) ?_
  show own_Go p e below T4 (mkF m 20 #[.val (.int p0), .val (.int p1), .val (.int p2), .val (.ref b1), .unset, .unset, .unset, .unset, .unset, .unset] [(.int (p1 &&& (255 : Int32))), (.int (1 : Int32)), (.ref b1)]) _
  refine own_st (fun t k => XS.i2c X4.here hx rfl (hb hby at_20) rfl k) ?_
  show own_Go p e below T4 (mkF m 21 #[.val (.int p0), .val (.int p1), .val (.int p2), .val (.ref b1), .unset, .unset, .unset, .unset, .unset, .unset] [(.int ((p1 &&& (255 : Int32)).toUInt32.toUInt16.toUInt32.toInt32)), (.int (1 : Int32)), (.ref b1)]) _
  obtain ⟨cl6, Ar6, q6, Sz6, Nn6, Hh6, Gg6⟩ := V4
  have hin6 : ¬ ((1 : Int32) < 0 ∨ cl6.slots.size ≤ ((1 : Int32)).toNatClampNeg) := inb_of Sz6 ⟨by decide, by decide⟩
  obtain ⟨T7, h7, X7, e7, W7, st7⟩ := stC X4 hx hZ e4 Ar6 (j := (1 : Int32)) hin6 (g := (mkF m 21 #[.val (.int p0), .val (.int p1), .val (.int p2), .val (.ref b1), .unset, .unset, .unset, .unset, .unset, .unset] [(.int ((p1 &&& (255 : Int32)).toUInt32.toUInt16.toUInt32.toInt32)), (.int (1 : Int32)), (.ref b1)])) rfl rfl (hb hby at_21)
  have V7 : Arv Z h7 b1 k1 .char (2 : Int32) [(.int (nar .char ((p0 &&& (255 : Int32)).toUInt32.toUInt16.toUInt32.toInt32))), (.int (nar .char ((p1 &&& (255 : Int32)).toUInt32.toUInt16.toUInt32.toInt32)))] (.int (0 : Int32)) := Arv.set Ar6 q6 Sz6 Nn6 Hh6 Gg6 (fits_nar_char _) W7 1 rfl (Nat.le_of_ble_eq_true rfl)
  have K8 : Keep h0 h7 [] := K5.wr W7 (Or.inr B1)
  have N7 := Fr.snoc X7 N4 G1
  refine own_st st7 ?_
  show own_Go p e below T7 (mkF m 22 #[.val (.int p0), .val (.int p1), .val (.int p2), .val (.ref b1), .unset, .unset, .unset, .unset, .unset, .unset] []) _
  have f9 := (Nat.le_trans (Nat.le_trans (Nat.le_trans Z0 E1.1) (Keep.of_wr W4).1) (Keep.of_wr W7).1)
  obtain ⟨T10, h10, X10, e10, E10, A10, D10, -, st10⟩ := newO X7 hx hZ hown (hw _ (List.mem_of_getElem? (i := 1) rfl)) (hw _ (List.mem_of_getElem? (i := 2) rfl)) (hw _ (List.mem_of_getElem? (i := 3) rfl)) e7 (g := (mkF m 22 #[.val (.int p0), .val (.int p1), .val (.int p2), .val (.ref b1), .unset, .unset, .unset, .unset, .unset, .unset] [])) rfl (hb hby at_22) (by decide) (by decide)
  obtain ⟨b10, g10⟩ : ∃ z, z = h7.size := ⟨_, rfl⟩
  rw [← g10] at A10 D10 st10
  have G10 : n0 ≤ b10 := Nat.le_trans f9 (Nat.le_of_eq g10.symm)
  have B10 : h0.size ≤ b10 := Nat.le_trans K8.1 (Nat.le_of_eq g10.symm)
  have K11 : Keep h0 h10 [] := K8.ext E10
  have D10_coder : Fld Z h10 b10 "java/lang/String" "coder" "B" (.int (0 : Int32)) := D10 (Or.inr (hw _ (List.mem_of_getElem? (i := 27) rfl))) (ty := .byte) (by decide)
  have D10_value : Fld Z h10 b10 "java/lang/String" "value" "[B" .null := D10 (Or.inr (hw _ (List.mem_of_getElem? (i := 29) rfl))) (ty := (.array .byte)) (by decide)
  refine own_st st10 ?_
  show own_Go p e below T10 (mkF m 25 #[.val (.int p0), .val (.int p1), .val (.int p2), .val (.ref b1), .unset, .unset, .unset, .unset, .unset, .unset] [(.ref b10)]) _
  refine own_st (fun t k => XS.dup X10.here hx rfl (hb hby at_25) rfl rfl k) ?_
  show own_Go p e below T10 (mkF m 26 #[.val (.int p0), .val (.int p1), .val (.int p2), .val (.ref b1), .unset, .unset, .unset, .unset, .unset, .unset] [(.ref b10), (.ref b10)]) _
  refine own_st (fun t k => XS.aloadN X10.here hx rfl (hb hby at_26) rfl rfl k) ?_
  show own_Go p e below T10 (mkF m 27 #[.val (.int p0), .val (.int p1), .val (.int p2), .val (.ref b1), .unset, .unset, .unset, .unset, .unset, .unset] [(.ref b1), (.ref b10), (.ref b10)]) _
  have hp : ∀ c ∈ ([nar .char ((p0 &&& (255 : Int32)).toUInt32.toUInt16.toUInt32.toInt32), nar .char ((p1 &&& (255 : Int32)).toUInt32.toUInt16.toUInt32.toInt32)] : List Int32), ¬ c < 0 ∧ ¬ (255 : Int32) < c := by
    intro c hc
    rw [own_narc, own_narc] at hc
    simp only [List.mem_cons, List.not_mem_nil, or_false] at hc
    rcases hc with rfl | rfl
    · exact own_in255 _ (own_m255 p0).1 (own_m255 p0).2
    · exact own_in255 _ (own_m255 p1).1 (own_m255 p1).2
  have f12 := (Nat.le_trans f9 E10.1)
  have f13 := (V7.ext E10)
  have f14 := ((((pO.ext E1).wr W4 G1).wr W7 G1).ext E10)
  obtain ⟨_, _, ⟨T15, L15, k15, n15⟩, -, X15, ⟨Lc15, hQ15, l15, y15, z15⟩, st15⟩ := X10.specialBack hx (y := (⟨"java/lang/String", "<init>", "([C)V"⟩ : MethodName)) rfl hown (mvT hZ (hw _ (List.mem_of_getElem? (i := 4) rfl))) (mvT hZ (hw _ (List.mem_of_getElem? (i := 5) rfl))) (mvT hZ (hw _ (List.mem_of_getElem? (i := 6) rfl))) (by decide) (StrChars.Road.backV (W := 1) hZ hws (kI := 4) (hw _ (List.mem_of_getElem? (i := 2) rfl)) (cs := ([nar .char ((p0 &&& (255 : Int32)).toUInt32.toUInt16.toUInt32.toInt32), nar .char ((p1 &&& (255 : Int32)).toUInt32.toUInt16.toUInt32.toInt32)] : List Int32)) (bs := (([nar .char ((p0 &&& (255 : Int32)).toUInt32.toUInt16.toUInt32.toInt32), nar .char ((p1 &&& (255 : Int32)).toUInt32.toUInt16.toUInt32.toInt32)] : List Int32)).map (fun c => c.toInt8.toInt32)) (n := 2) G10 f12 A10 D10_value D10_coder f13 (pS_COMPACT_STRINGS.ext f14.2) pP5 rfl rfl (by decide) (by decide) hp rfl (by decide) (by decide)) (g := (mkF m 27 #[.val (.int p0), .val (.int p1), .val (.int p2), .val (.ref b1), .unset, .unset, .unset, .unset, .unset, .unset] [(.ref b1), (.ref b10), (.ref b10)])) rfl (by rw [hml]; rfl) (Steps.refl _) (a := b10) (argsL := [(.ref b1)]) (rest := [(.ref b10)]) (lenOf pd___C_V rfl) rfl (by show 2 * 0 + _ ≤ _; exact Nat.le_of_eq rfl) (hb hby at_27) (fun _ _ => ⟨rfl, e10, (by decide : 2 + 1 ≤ _), (by decide : 6 + 2 ≤ _)⟩)
  dsimp only [Pt.U, Pt.locs, Pt.cells, Pt.slots] at X15 l15 y15 z15 st15 hQ15
  subst l15 y15 z15
  obtain ⟨rfl, Nq15, Kq15, q15_E, q15_c, t15, kb15, q15_g, q15_b, q15_n, q15_v, q15_V⟩ := hQ15
  have N15 := Fr.app N7 Nq15
  have K16 : Keep h0 T15.heap [] := K11.trans Kq15 (allS (Or.inr B10) all0)
  have Bf17 : h0.size ≤ t15 := Nat.le_trans K11.1 q15_b
  refine own_tr st15 ?_
  show own_Go p e below T15 (mkF m 30 #[.val (.int p0), .val (.int p1), .val (.int p2), .val (.ref b1), .unset, .unset, .unset, .unset, .unset, .unset] [(.ref b10)]) _
  refine own_st (fun t k => XS.astore X15.here hx rfl (hb hby at_30) rfl rfl (l' := #[.val (.int p0), .val (.int p1), .val (.int p2), .val (.ref b1), .val (.ref b10), .unset, .unset, .unset, .unset, .unset]) rfl k) ?_
  show own_Go p e below T15 (mkF m 32 #[.val (.int p0), .val (.int p1), .val (.int p2), .val (.ref b1), .val (.ref b10), .unset, .unset, .unset, .unset, .unset] []) _
  have f18 := (Nat.le_trans f12 Kq15.1)
  obtain ⟨T19, h19, X19, e19, E19, A19, D19, -, st19⟩ := newO X15 hx hZ hown (hw _ (List.mem_of_getElem? (i := 30) rfl)) (hw _ (List.mem_of_getElem? (i := 31) rfl)) (hw _ (List.mem_of_getElem? (i := 32) rfl)) rfl (g := (mkF m 32 #[.val (.int p0), .val (.int p1), .val (.int p2), .val (.ref b1), .val (.ref b10), .unset, .unset, .unset, .unset, .unset] [])) rfl (hb hby at_32) (by decide) (by decide)
  obtain ⟨b19, g19⟩ : ∃ z, z = T15.heap.size := ⟨_, rfl⟩
  rw [← g19] at A19 D19 st19
  have G19 : n0 ≤ b19 := Nat.le_trans f18 (Nat.le_of_eq g19.symm)
  have B19 : h0.size ≤ b19 := Nat.le_trans K16.1 (Nat.le_of_eq g19.symm)
  have K20 : Keep h0 h19 [] := K16.ext E19
  have D19_methods : Fld Z h19 b19 "com/example/phlow/phlow/policy/PolicyClass" "methods" "Ljava/util/Map;" .null := D19 (Or.inr (hw _ (List.mem_of_getElem? (i := 64) rfl))) (ty := (.object "java/util/Map")) (by decide)
  have D19_attributes : Fld Z h19 b19 "com/example/phlow/phlow/policy/PolicyClass" "attributes" "Ljava/util/Map;" .null := D19 (Or.inr (hw _ (List.mem_of_getElem? (i := 66) rfl))) (ty := (.object "java/util/Map")) (by decide)
  have D19_name : Fld Z h19 b19 "com/example/phlow/phlow/policy/PolicyClass" "name" "Ljava/lang/String;" .null := D19 (Or.inr (hw _ (List.mem_of_getElem? (i := 68) rfl))) (ty := (.object "java/lang/String")) (by decide)
  have D19_foreign : Fld Z h19 b19 "com/example/phlow/phlow/policy/PolicyClass" "foreign" "Z" (.int (0 : Int32)) := D19 (Or.inl (hw _ (List.mem_of_getElem? (i := 75) rfl))) (ty := .boolean) (by decide)
  refine own_st st19 ?_
  show own_Go p e below T19 (mkF m 35 #[.val (.int p0), .val (.int p1), .val (.int p2), .val (.ref b1), .val (.ref b10), .unset, .unset, .unset, .unset, .unset] [(.ref b19)]) _
  refine own_st (fun t k => XS.dup X19.here hx rfl (hb hby at_35) rfl rfl k) ?_
  show own_Go p e below T19 (mkF m 36 #[.val (.int p0), .val (.int p1), .val (.int p2), .val (.ref b1), .val (.ref b10), .unset, .unset, .unset, .unset, .unset] [(.ref b19), (.ref b19)]) _
  refine own_st (fun t k => XS.aload X19.here hx rfl (hb hby at_36) rfl rfl k) ?_
  show own_Go p e below T19 (mkF m 38 #[.val (.int p0), .val (.int p1), .val (.int p2), .val (.ref b1), .val (.ref b10), .unset, .unset, .unset, .unset, .unset] [(.ref b10), (.ref b19), (.ref b19)]) _
  have f21 := (Nat.le_trans f18 E19.1)
  obtain ⟨_, _, ⟨T22, L22, k22, n22⟩, -, X22, ⟨Lc22, hQ22, l22, y22, z22⟩, st22⟩ := X19.specialBack hx (y := (⟨"com/example/phlow/phlow/policy/PolicyClass", "<init>", "(Ljava/lang/String;)V"⟩ : MethodName)) rfl hown (mvT hZ (hw _ (List.mem_of_getElem? (i := 33) rfl))) (mvT hZ (hw _ (List.mem_of_getElem? (i := 34) rfl))) (mvT hZ (hw _ (List.mem_of_getElem? (i := 35) rfl))) (by decide) (backOf (W := 1) (rmPC l Z a0 hw [] b19 b10 .null .null .null ((0 : Int32)) h19 n0 f21 A19 D19_methods D19_attributes D19_name D19_foreign G19) hZ (hw _ (List.mem_of_getElem? (i := 35) rfl)) (hw _ (List.mem_of_getElem? (i := 32) rfl)) (by decide) (by decide)) (g := (mkF m 38 #[.val (.int p0), .val (.int p1), .val (.int p2), .val (.ref b1), .val (.ref b10), .unset, .unset, .unset, .unset, .unset] [(.ref b10), (.ref b19), (.ref b19)])) rfl (by rw [hml]; rfl) (Steps.refl _) (a := b19) (argsL := [(.ref b10)]) (rest := [(.ref b19)]) (lenOf pd__Ljava_lang_String__V rfl) rfl (by show 2 * 0 + _ ≤ _; exact Nat.le_of_eq rfl) (hb hby at_38) (fun _ _ => ⟨rfl, e19, (by decide : 4 + 2 ≤ _), (by decide : 12 + 24 ≤ _)⟩)
  dsimp only [Pt.U, Pt.locs, Pt.cells, Pt.slots] at X22 l22 y22 z22 st22 hQ22
  subst l22 y22 z22
  obtain ⟨rfl, Nq22, Kq22, q22_0, q22_1⟩ := hQ22
  have N22 := Fr.app N15 Nq22
  have K23 : Keep h0 T22.heap [] := K20.trans Kq22 (allS (Or.inr B19) all0)
  refine own_tr st22 ?_
  show own_Go p e below T22 (mkF m 41 #[.val (.int p0), .val (.int p1), .val (.int p2), .val (.ref b1), .val (.ref b10), .unset, .unset, .unset, .unset, .unset] [(.ref b19)]) _
  refine own_st (fun t k => XS.astore X22.here hx rfl (hb hby at_41) rfl rfl (l' := #[.val (.int p0), .val (.int p1), .val (.int p2), .val (.ref b1), .val (.ref b10), .val (.ref b19), .unset, .unset, .unset, .unset]) rfl k) ?_
  show own_Go p e below T22 (mkF m 43 #[.val (.int p0), .val (.int p1), .val (.int p2), .val (.ref b1), .val (.ref b10), .val (.ref b19), .unset, .unset, .unset, .unset] []) _
  refine own_st (fun t k => XS.aload X22.here hx rfl (hb hby at_43) rfl rfl k) ?_
  show own_Go p e below T22 (mkF m 45 #[.val (.int p0), .val (.int p1), .val (.int p2), .val (.ref b1), .val (.ref b10), .val (.ref b19), .unset, .unset, .unset, .unset] [(.ref b19)]) _
  have f24 := (Nat.le_trans f21 Kq22.1)
  have f26 := (A19.keep Kq22)
  obtain ⟨cq25, kq25, qa25, qb25, qc25⟩ := isOf hZ rfl f26
  obtain ⟨_, _, ⟨T25, L25, k25, n25⟩, -, X25, ⟨Lc25, hQ25, l25, y25, z25⟩, st25⟩ := X22.virtualBack hx (y := (⟨"com/example/phlow/phlow/policy/PolicyClass", "isForeign", "()Z"⟩ : MethodName)) (z := (⟨"com/example/phlow/phlow/policy/PolicyClass", "isForeign", "()Z"⟩ : MethodName)) hown (mvT hZ (hw _ (List.mem_of_getElem? (i := 69) rfl))) (mvT hZ (hw _ (List.mem_of_getElem? (i := 70) rfl))) (notFace_of_selects (args := #[]) (mvT hZ (hw _ (List.mem_of_getElem? (i := 72) rfl)))) (mvT hZ (hw _ (List.mem_of_getElem? (i := 72) rfl))) (mvT hZ (hw _ (List.mem_of_getElem? (i := 71) rfl))) (by decide) (backOf (W := 0) (rmIF l Z a0 hw [] b19 ((0 : Int32)) T22.heap n0 f24 q22_1 (by decide)) hZ (hw _ (List.mem_of_getElem? (i := 73) rfl)) (hw _ (List.mem_of_getElem? (i := 32) rfl)) (by decide) (by decide)) qa25 qc25 (g := (mkF m 45 #[.val (.int p0), .val (.int p1), .val (.int p2), .val (.ref b1), .val (.ref b10), .val (.ref b19), .unset, .unset, .unset, .unset] [(.ref b19)])) rfl (by rw [hml]; rfl) (Steps.refl _) (argsL := []) (rest := []) (lenOf pd___Z rfl) rfl (by show 2 * 0 + _ ≤ _; exact Nat.le_of_eq rfl) (hb hby at_45) (fun _ _ => ⟨rfl, rfl, (by decide : 6 + 0 ≤ _), (by decide : 36 + 0 ≤ _)⟩)
  dsimp only [Pt.U, Pt.locs, Pt.cells, Pt.slots] at X25 l25 y25 z25 st25 hQ25
  subst l25 y25 z25
  obtain ⟨rfl, Nq25, eH25⟩ := hQ25
  have N25 := Fr.app N22 Nq25
  refine own_tr st25 ?_
  show own_Go p e below T25 (mkF m 48 #[.val (.int p0), .val (.int p1), .val (.int p2), .val (.ref b1), .val (.ref b10), .val (.ref b19), .unset, .unset, .unset, .unset] [(.int (0 : Int32))]) _
  refine own_st (fun t k => XS.ifNo X25.here hx rfl (hb hby at_48) rfl (by decide) k) ?_
  show own_Go p e below T25 (mkF m 51 #[.val (.int p0), .val (.int p1), .val (.int p2), .val (.ref b1), .val (.ref b10), .val (.ref b19), .unset, .unset, .unset, .unset] []) _
  refine own_st (fun t k => XS.iconst X25.here hx rfl (hb hby at_51) k) ?_
  show own_Go p e below T25 (mkF m 52 #[.val (.int p0), .val (.int p1), .val (.int p2), .val (.ref b1), .val (.ref b10), .val (.ref b19), .unset, .unset, .unset, .unset] [(.int (1 : Int32))]) _
  refine own_st (fun t k => XS.goto X25.here hx rfl (pc0 := 52) (pc' := 56) rfl (hb hby at_52) (by decide) (by decide) k) ?_
  show own_Go p e below T25 (mkF m 56 #[.val (.int p0), .val (.int p1), .val (.int p2), .val (.ref b1), .val (.ref b10), .val (.ref b19), .unset, .unset, .unset, .unset] [(.int (1 : Int32))]) _
  refine own_st (fun t k => XS.istore X25.here hx rfl (hb hby at_56) rfl (l' := #[.val (.int p0), .val (.int p1), .val (.int p2), .val (.ref b1), .val (.ref b10), .val (.ref b19), .val (.int (1 : Int32)), .unset, .unset, .unset]) rfl k) ?_
  show own_Go p e below T25 (mkF m 58 #[.val (.int p0), .val (.int p1), .val (.int p2), .val (.ref b1), .val (.ref b10), .val (.ref b19), .val (.int (1 : Int32)), .unset, .unset, .unset] []) _
  refine own_st (fun t k => XS.iloadN X25.here hx rfl (hb hby at_58) rfl k) ?_
  show own_Go p e below T25 (mkF m 59 #[.val (.int p0), .val (.int p1), .val (.int p2), .val (.ref b1), .val (.ref b10), .val (.ref b19), .val (.int (1 : Int32)), .unset, .unset, .unset] [(.int p2)]) _
  refine own_st (fun t k => XS.iconst X25.here hx rfl (hb hby at_59) k) ?_
  show own_Go p e below T25 (mkF m 60 #[.val (.int p0), .val (.int p1), .val (.int p2), .val (.ref b1), .val (.ref b10), .val (.ref b19), .val (.int (1 : Int32)), .unset, .unset, .unset] [(.int (3 : Int32)), (.int p2)]) _
  refine own_st (fun t k => XS.iand X25.here hx rfl (hb hby at_60) rfl k) ?_
  show own_Go p e below T25 (mkF m 61 #[.val (.int p0), .val (.int p1), .val (.int p2), .val (.ref b1), .val (.ref b10), .val (.ref b19), .val (.int (1 : Int32)), .unset, .unset, .unset] [(.int (p2 &&& (3 : Int32)))]) _
  rw [hpre]
  show own_Go p e below T25 (mkF m 61 #[.val (.int p0), .val (.int p1), .val (.int p2), .val (.ref b1), .val (.ref b10), .val (.ref b19), .val (.int (1 : Int32)), .unset, .unset, .unset] [(.int (0 : Int32))]) _
  refine own_st (fun t k => XS.istore X25.here hx rfl (hb hby at_61) rfl (l' := #[.val (.int p0), .val (.int p1), .val (.int p2), .val (.ref b1), .val (.ref b10), .val (.ref b19), .val (.int (1 : Int32)), .val (.int (0 : Int32)), .unset, .unset]) rfl k) ?_
  show own_Go p e below T25 (mkF m 63 #[.val (.int p0), .val (.int p1), .val (.int p2), .val (.ref b1), .val (.ref b10), .val (.ref b19), .val (.int (1 : Int32)), .val (.int (0 : Int32)), .unset, .unset] []) _
  refine own_st (fun t k => XS.iload X25.here hx rfl (hb hby at_63) rfl k) ?_
  show own_Go p e below T25 (mkF m 65 #[.val (.int p0), .val (.int p1), .val (.int p2), .val (.ref b1), .val (.ref b10), .val (.ref b19), .val (.int (1 : Int32)), .val (.int (0 : Int32)), .unset, .unset] [(.int (0 : Int32))]) _
  refine own_st (fun t k => XS.iconst X25.here hx rfl (hb hby at_65) k) ?_
  show own_Go p e below T25 (mkF m 66 #[.val (.int p0), .val (.int p1), .val (.int p2), .val (.ref b1), .val (.ref b10), .val (.ref b19), .val (.int (1 : Int32)), .val (.int (0 : Int32)), .unset, .unset] [(.int (1 : Int32)), (.int (0 : Int32))]) _
  refine own_st (fun t k => XS.icmpYes X25.here hx rfl (pc0 := 66) (pc' := 79) rfl (hb hby at_66) rfl (by decide) (by decide) (by decide) k) ?_
  show own_Go p e below T25 (mkF m 79 #[.val (.int p0), .val (.int p1), .val (.int p2), .val (.ref b1), .val (.ref b10), .val (.ref b19), .val (.int (1 : Int32)), .val (.int (0 : Int32)), .unset, .unset] []) _
  refine own_st (fun t k => XS.iload X25.here hx rfl (hb hby at_79) rfl k) ?_
  show own_Go p e below T25 (mkF m 81 #[.val (.int p0), .val (.int p1), .val (.int p2), .val (.ref b1), .val (.ref b10), .val (.ref b19), .val (.int (1 : Int32)), .val (.int (0 : Int32)), .unset, .unset] [(.int (0 : Int32))]) _
  refine own_st (fun t k => XS.iconst X25.here hx rfl (hb hby at_81) k) ?_
  show own_Go p e below T25 (mkF m 82 #[.val (.int p0), .val (.int p1), .val (.int p2), .val (.ref b1), .val (.ref b10), .val (.ref b19), .val (.int (1 : Int32)), .val (.int (0 : Int32)), .unset, .unset] [(.int (2 : Int32)), (.int (0 : Int32))]) _
  refine own_st (fun t k => XS.icmpYes X25.here hx rfl (pc0 := 82) (pc' := 103) rfl (hb hby at_82) rfl (by decide) (by decide) (by decide) k) ?_
  show own_Go p e below T25 (mkF m 103 #[.val (.int p0), .val (.int p1), .val (.int p2), .val (.ref b1), .val (.ref b10), .val (.ref b19), .val (.int (1 : Int32)), .val (.int (0 : Int32)), .unset, .unset] []) _
  refine own_st (fun t k => XS.iload X25.here hx rfl (hb hby at_103) rfl k) ?_
  show own_Go p e below T25 (mkF m 105 #[.val (.int p0), .val (.int p1), .val (.int p2), .val (.ref b1), .val (.ref b10), .val (.ref b19), .val (.int (1 : Int32)), .val (.int (0 : Int32)), .unset, .unset] [(.int (0 : Int32))]) _
  refine own_st (fun t k => XS.iconst X25.here hx rfl (hb hby at_105) k) ?_
  show own_Go p e below T25 (mkF m 106 #[.val (.int p0), .val (.int p1), .val (.int p2), .val (.ref b1), .val (.ref b10), .val (.ref b19), .val (.int (1 : Int32)), .val (.int (0 : Int32)), .unset, .unset] [(.int (3 : Int32)), (.int (0 : Int32))]) _
  refine own_st (fun t k => XS.icmpYes X25.here hx rfl (pc0 := 106) (pc' := 127) rfl (hb hby at_106) rfl (by decide) (by decide) (by decide) k) ?_
  show own_Go p e below T25 (mkF m 127 #[.val (.int p0), .val (.int p1), .val (.int p2), .val (.ref b1), .val (.ref b10), .val (.ref b19), .val (.int (1 : Int32)), .val (.int (0 : Int32)), .unset, .unset] []) _
  refine own_st (fun t k => XS.aload X25.here hx rfl (hb hby at_127) rfl rfl k) ?_
  show own_Go p e below T25 (mkF m 129 #[.val (.int p0), .val (.int p1), .val (.int p2), .val (.ref b1), .val (.ref b10), .val (.ref b19), .val (.int (1 : Int32)), .val (.int (0 : Int32)), .unset, .unset] [(.ref b19)]) _
  obtain ⟨cq27, kq27, qa27, qb27, qc27⟩ := isOf hZ eH25 f26
  obtain ⟨_, _, ⟨T27, L27, k27, n27⟩, -, X27, ⟨Lc27, hQ27, l27, y27, z27⟩, st27⟩ := X25.virtualBack hx (y := (⟨"com/example/phlow/phlow/policy/PolicyClass", "isForeign", "()Z"⟩ : MethodName)) (z := (⟨"com/example/phlow/phlow/policy/PolicyClass", "isForeign", "()Z"⟩ : MethodName)) hown (mvT hZ (hw _ (List.mem_of_getElem? (i := 69) rfl))) (mvT hZ (hw _ (List.mem_of_getElem? (i := 70) rfl))) (notFace_of_selects (args := #[]) (mvT hZ (hw _ (List.mem_of_getElem? (i := 72) rfl)))) (mvT hZ (hw _ (List.mem_of_getElem? (i := 72) rfl))) (mvT hZ (hw _ (List.mem_of_getElem? (i := 71) rfl))) (by decide) (backOf (W := 0) (rmIF l Z a0 hw [] b19 ((0 : Int32)) T22.heap n0 f24 q22_1 (by decide)) hZ (hw _ (List.mem_of_getElem? (i := 73) rfl)) (hw _ (List.mem_of_getElem? (i := 32) rfl)) (by decide) (by decide)) qa27 qc27 (g := (mkF m 129 #[.val (.int p0), .val (.int p1), .val (.int p2), .val (.ref b1), .val (.ref b10), .val (.ref b19), .val (.int (1 : Int32)), .val (.int (0 : Int32)), .unset, .unset] [(.ref b19)])) rfl (by rw [hml]; rfl) (Steps.refl _) (argsL := []) (rest := []) (lenOf pd___Z rfl) rfl (by show 2 * 0 + _ ≤ _; exact Nat.le_of_eq rfl) (hb hby at_129) (fun _ _ => ⟨rfl, eH25, (by decide : 6 + 0 ≤ _), (by decide : 36 + 0 ≤ _)⟩)
  dsimp only [Pt.U, Pt.locs, Pt.cells, Pt.slots] at X27 l27 y27 z27 st27 hQ27
  subst l27 y27 z27
  obtain ⟨rfl, Nq27, eH27⟩ := hQ27
  have N27 := Fr.app N25 Nq27
  refine own_tr st27 ?_
  show own_Go p e below T27 (mkF m 132 #[.val (.int p0), .val (.int p1), .val (.int p2), .val (.ref b1), .val (.ref b10), .val (.ref b19), .val (.int (1 : Int32)), .val (.int (0 : Int32)), .unset, .unset] [(.int (0 : Int32))]) _
  refine own_st (fun t k => XS.istore X27.here hx rfl (hb hby at_132) rfl (l' := #[.val (.int p0), .val (.int p1), .val (.int p2), .val (.ref b1), .val (.ref b10), .val (.ref b19), .val (.int (1 : Int32)), .val (.int (0 : Int32)), .val (.int (0 : Int32)), .unset]) rfl k) ?_
  show own_Go p e below T27 (mkF m 134 #[.val (.int p0), .val (.int p1), .val (.int p2), .val (.ref b1), .val (.ref b10), .val (.ref b19), .val (.int (1 : Int32)), .val (.int (0 : Int32)), .val (.int (0 : Int32)), .unset] []) _
  refine own_st (fun t k => XS.iload X27.here hx rfl (hb hby at_134) rfl k) ?_
  show own_Go p e below T27 (mkF m 136 #[.val (.int p0), .val (.int p1), .val (.int p2), .val (.ref b1), .val (.ref b10), .val (.ref b19), .val (.int (1 : Int32)), .val (.int (0 : Int32)), .val (.int (0 : Int32)), .unset] [(.int (1 : Int32))]) _
  refine own_st (fun t k => XS.iload X27.here hx rfl (hb hby at_136) rfl k) ?_
  show own_Go p e below T27 (mkF m 138 #[.val (.int p0), .val (.int p1), .val (.int p2), .val (.ref b1), .val (.ref b10), .val (.ref b19), .val (.int (1 : Int32)), .val (.int (0 : Int32)), .val (.int (0 : Int32)), .unset] [(.int (0 : Int32)), (.int (1 : Int32))]) _
  refine own_st (fun t k => XS.iload X27.here hx rfl (hb hby at_138) rfl k) ?_
  show own_Go p e below T27 (mkF m 140 #[.val (.int p0), .val (.int p1), .val (.int p2), .val (.ref b1), .val (.ref b10), .val (.ref b19), .val (.int (1 : Int32)), .val (.int (0 : Int32)), .val (.int (0 : Int32)), .unset] [(.int (0 : Int32)), (.int (0 : Int32)), (.int (1 : Int32))]) _
  refine own_st (fun t k => XS.iconst X27.here hx rfl (hb hby at_140) k) ?_
  show own_Go p e below T27 (mkF m 141 #[.val (.int p0), .val (.int p1), .val (.int p2), .val (.ref b1), .val (.ref b10), .val (.ref b19), .val (.int (1 : Int32)), .val (.int (0 : Int32)), .val (.int (0 : Int32)), .unset] [(.int (1 : Int32)), (.int (0 : Int32)), (.int (0 : Int32)), (.int (1 : Int32))]) _
  refine own_st (fun t k => XS.icmpYes X27.here hx rfl (pc0 := 141) (pc' := 148) rfl (hb hby at_141) rfl (by decide) (by decide) (by decide) k) ?_
  show own_Go p e below T27 (mkF m 148 #[.val (.int p0), .val (.int p1), .val (.int p2), .val (.ref b1), .val (.ref b10), .val (.ref b19), .val (.int (1 : Int32)), .val (.int (0 : Int32)), .val (.int (0 : Int32)), .unset] [(.int (0 : Int32)), (.int (1 : Int32))]) _
  refine own_st (fun t k => XS.iconst X27.here hx rfl (hb hby at_148) k) ?_
  show own_Go p e below T27 (mkF m 149 #[.val (.int p0), .val (.int p1), .val (.int p2), .val (.ref b1), .val (.ref b10), .val (.ref b19), .val (.int (1 : Int32)), .val (.int (0 : Int32)), .val (.int (0 : Int32)), .unset] [(.int (0 : Int32)), (.int (0 : Int32)), (.int (1 : Int32))]) _
  refine own_st (fun t k => XS.icmpNo X27.here hx rfl (hb hby at_149) rfl (by decide) k) ?_
  show own_Go p e below T27 (mkF m 152 #[.val (.int p0), .val (.int p1), .val (.int p2), .val (.ref b1), .val (.ref b10), .val (.ref b19), .val (.int (1 : Int32)), .val (.int (0 : Int32)), .val (.int (0 : Int32)), .unset] [(.int (1 : Int32))]) _
  refine own_st (fun t k => XS.iconst X27.here hx rfl (hb hby at_152) k) ?_
  show own_Go p e below T27 (mkF m 153 #[.val (.int p0), .val (.int p1), .val (.int p2), .val (.ref b1), .val (.ref b10), .val (.ref b19), .val (.int (1 : Int32)), .val (.int (0 : Int32)), .val (.int (0 : Int32)), .unset] [(.int (1 : Int32)), (.int (1 : Int32))]) _
  refine own_st (fun t k => XS.goto X27.here hx rfl (pc0 := 153) (pc' := 157) rfl (hb hby at_153) (by decide) (by decide) k) ?_
  show own_Go p e below T27 (mkF m 157 #[.val (.int p0), .val (.int p1), .val (.int p2), .val (.ref b1), .val (.ref b10), .val (.ref b19), .val (.int (1 : Int32)), .val (.int (0 : Int32)), .val (.int (0 : Int32)), .unset] [(.int (1 : Int32)), (.int (1 : Int32))]) _
  refine own_st (fun t k => XS.iand X27.here hx rfl (hb hby at_157) rfl k) ?_
  show own_Go p e below T27 (mkF m 158 #[.val (.int p0), .val (.int p1), .val (.int p2), .val (.ref b1), .val (.ref b10), .val (.ref b19), .val (.int (1 : Int32)), .val (.int (0 : Int32)), .val (.int (0 : Int32)), .unset] [(.int (1 : Int32))]) _
  refine own_st (fun t k => XS.istore X27.here hx rfl (hb hby at_158) rfl (l' := #[.val (.int p0), .val (.int p1), .val (.int p2), .val (.ref b1), .val (.ref b10), .val (.ref b19), .val (.int (1 : Int32)), .val (.int (0 : Int32)), .val (.int (0 : Int32)), .unset]) rfl k) ?_
  show own_Go p e below T27 (mkF m 160 #[.val (.int p0), .val (.int p1), .val (.int p2), .val (.ref b1), .val (.ref b10), .val (.ref b19), .val (.int (1 : Int32)), .val (.int (0 : Int32)), .val (.int (0 : Int32)), .unset] []) _
  refine own_st (fun t k => XS.aload X27.here hx rfl (hb hby at_160) rfl rfl k) ?_
  show own_Go p e below T27 (mkF m 162 #[.val (.int p0), .val (.int p1), .val (.int p2), .val (.ref b1), .val (.ref b10), .val (.ref b19), .val (.int (1 : Int32)), .val (.int (0 : Int32)), .val (.int (0 : Int32)), .unset] [(.ref b19)]) _
  obtain ⟨cq28, kq28, qa28, qb28, qc28⟩ := isOf hZ eH27 f26
  obtain ⟨_, _, ⟨T28, L28, k28, n28⟩, -, X28, ⟨Lc28, hQ28, l28, y28, z28⟩, st28⟩ := X27.virtualBack hx (y := (⟨"com/example/phlow/phlow/policy/PolicyClass", "markForeign", "()Z"⟩ : MethodName)) (z := (⟨"com/example/phlow/phlow/policy/PolicyClass", "markForeign", "()Z"⟩ : MethodName)) hown (mvT hZ (hw _ (List.mem_of_getElem? (i := 76) rfl))) (mvT hZ (hw _ (List.mem_of_getElem? (i := 77) rfl))) (notFace_of_selects (args := #[]) (mvT hZ (hw _ (List.mem_of_getElem? (i := 79) rfl)))) (mvT hZ (hw _ (List.mem_of_getElem? (i := 79) rfl))) (mvT hZ (hw _ (List.mem_of_getElem? (i := 78) rfl))) (by decide) (backOf (W := 0) (rmMF0 l Z a0 hw [] b19 b10 T22.heap n0 f24 f26 q22_1 q22_0 G19) hZ (hw _ (List.mem_of_getElem? (i := 80) rfl)) (hw _ (List.mem_of_getElem? (i := 32) rfl)) (by decide) (by decide)) qa28 qc28 (g := (mkF m 162 #[.val (.int p0), .val (.int p1), .val (.int p2), .val (.ref b1), .val (.ref b10), .val (.ref b19), .val (.int (1 : Int32)), .val (.int (0 : Int32)), .val (.int (0 : Int32)), .unset] [(.ref b19)])) rfl (by rw [hml]; rfl) (Steps.refl _) (argsL := []) (rest := []) (lenOf pd___Z rfl) rfl (by show 2 * 0 + _ ≤ _; exact Nat.le_of_eq rfl) (hb hby at_162) (fun _ _ => ⟨rfl, eH27, (by decide : 6 + 0 ≤ _), (by decide : 36 + 0 ≤ _)⟩)
  dsimp only [Pt.U, Pt.locs, Pt.cells, Pt.slots] at X28 l28 y28 z28 st28 hQ28
  subst l28 y28 z28
  obtain ⟨rfl, Nq28, Kq28, q28_0, q28_1⟩ := hQ28
  have N28 := Fr.app N27 Nq28
  have K29 : Keep h0 T28.heap [] := K23.trans Kq28 (allS (Or.inr B19) all0)
  refine own_tr st28 ?_
  show own_Go p e below T28 (mkF m 165 #[.val (.int p0), .val (.int p1), .val (.int p2), .val (.ref b1), .val (.ref b10), .val (.ref b19), .val (.int (1 : Int32)), .val (.int (0 : Int32)), .val (.int (0 : Int32)), .unset] [(.int (1 : Int32))]) _
  refine own_st (fun t k => XS.istore X28.here hx rfl (hb hby at_165) rfl (l' := #[.val (.int p0), .val (.int p1), .val (.int p2), .val (.ref b1), .val (.ref b10), .val (.ref b19), .val (.int (1 : Int32)), .val (.int (0 : Int32)), .val (.int (0 : Int32)), .val (.int (1 : Int32))]) rfl k) ?_
  show own_Go p e below T28 (mkF m 167 #[.val (.int p0), .val (.int p1), .val (.int p2), .val (.ref b1), .val (.ref b10), .val (.ref b19), .val (.int (1 : Int32)), .val (.int (0 : Int32)), .val (.int (0 : Int32)), .val (.int (1 : Int32))] []) _
  refine own_st (fun t k => XS.iload X28.here hx rfl (hb hby at_167) rfl k) ?_
  show own_Go p e below T28 (mkF m 169 #[.val (.int p0), .val (.int p1), .val (.int p2), .val (.ref b1), .val (.ref b10), .val (.ref b19), .val (.int (1 : Int32)), .val (.int (0 : Int32)), .val (.int (0 : Int32)), .val (.int (1 : Int32))] [(.int (1 : Int32))]) _
  refine own_st (fun t k => XS.iload X28.here hx rfl (hb hby at_169) rfl k) ?_
  show own_Go p e below T28 (mkF m 171 #[.val (.int p0), .val (.int p1), .val (.int p2), .val (.ref b1), .val (.ref b10), .val (.ref b19), .val (.int (1 : Int32)), .val (.int (0 : Int32)), .val (.int (0 : Int32)), .val (.int (1 : Int32))] [(.int (1 : Int32)), (.int (1 : Int32))]) _
  refine own_st (fun t k => XS.iload X28.here hx rfl (hb hby at_171) rfl k) ?_
  show own_Go p e below T28 (mkF m 173 #[.val (.int p0), .val (.int p1), .val (.int p2), .val (.ref b1), .val (.ref b10), .val (.ref b19), .val (.int (1 : Int32)), .val (.int (0 : Int32)), .val (.int (0 : Int32)), .val (.int (1 : Int32))] [(.int (0 : Int32)), (.int (1 : Int32)), (.int (1 : Int32))]) _
  refine own_st (fun t k => XS.ifNo X28.here hx rfl (hb hby at_173) rfl (by decide) k) ?_
  show own_Go p e below T28 (mkF m 176 #[.val (.int p0), .val (.int p1), .val (.int p2), .val (.ref b1), .val (.ref b10), .val (.ref b19), .val (.int (1 : Int32)), .val (.int (0 : Int32)), .val (.int (0 : Int32)), .val (.int (1 : Int32))] [(.int (1 : Int32)), (.int (1 : Int32))]) _
  refine own_st (fun t k => XS.iconst X28.here hx rfl (hb hby at_176) k) ?_
  show own_Go p e below T28 (mkF m 177 #[.val (.int p0), .val (.int p1), .val (.int p2), .val (.ref b1), .val (.ref b10), .val (.ref b19), .val (.int (1 : Int32)), .val (.int (0 : Int32)), .val (.int (0 : Int32)), .val (.int (1 : Int32))] [(.int (1 : Int32)), (.int (1 : Int32)), (.int (1 : Int32))]) _
  refine own_st (fun t k => XS.goto X28.here hx rfl (pc0 := 177) (pc' := 181) rfl (hb hby at_177) (by decide) (by decide) k) ?_
  show own_Go p e below T28 (mkF m 181 #[.val (.int p0), .val (.int p1), .val (.int p2), .val (.ref b1), .val (.ref b10), .val (.ref b19), .val (.int (1 : Int32)), .val (.int (0 : Int32)), .val (.int (0 : Int32)), .val (.int (1 : Int32))] [(.int (1 : Int32)), (.int (1 : Int32)), (.int (1 : Int32))]) _
  refine own_st (fun t k => XS.icmpNo X28.here hx rfl (hb hby at_181) rfl (by decide) k) ?_
  show own_Go p e below T28 (mkF m 184 #[.val (.int p0), .val (.int p1), .val (.int p2), .val (.ref b1), .val (.ref b10), .val (.ref b19), .val (.int (1 : Int32)), .val (.int (0 : Int32)), .val (.int (0 : Int32)), .val (.int (1 : Int32))] [(.int (1 : Int32))]) _
  refine own_st (fun t k => XS.iconst X28.here hx rfl (hb hby at_184) k) ?_
  show own_Go p e below T28 (mkF m 185 #[.val (.int p0), .val (.int p1), .val (.int p2), .val (.ref b1), .val (.ref b10), .val (.ref b19), .val (.int (1 : Int32)), .val (.int (0 : Int32)), .val (.int (0 : Int32)), .val (.int (1 : Int32))] [(.int (1 : Int32)), (.int (1 : Int32))]) _
  refine own_st (fun t k => XS.goto X28.here hx rfl (pc0 := 185) (pc' := 189) rfl (hb hby at_185) (by decide) (by decide) k) ?_
  show own_Go p e below T28 (mkF m 189 #[.val (.int p0), .val (.int p1), .val (.int p2), .val (.ref b1), .val (.ref b10), .val (.ref b19), .val (.int (1 : Int32)), .val (.int (0 : Int32)), .val (.int (0 : Int32)), .val (.int (1 : Int32))] [(.int (1 : Int32)), (.int (1 : Int32))]) _
  refine own_st (fun t k => XS.iand X28.here hx rfl (hb hby at_189) rfl k) ?_
  show own_Go p e below T28 (mkF m 190 #[.val (.int p0), .val (.int p1), .val (.int p2), .val (.ref b1), .val (.ref b10), .val (.ref b19), .val (.int (1 : Int32)), .val (.int (0 : Int32)), .val (.int (0 : Int32)), .val (.int (1 : Int32))] [(.int (1 : Int32))]) _
  refine own_st (fun t k => XS.istore X28.here hx rfl (hb hby at_190) rfl (l' := #[.val (.int p0), .val (.int p1), .val (.int p2), .val (.ref b1), .val (.ref b10), .val (.ref b19), .val (.int (1 : Int32)), .val (.int (0 : Int32)), .val (.int (0 : Int32)), .val (.int (1 : Int32))]) rfl k) ?_
  show own_Go p e below T28 (mkF m 192 #[.val (.int p0), .val (.int p1), .val (.int p2), .val (.ref b1), .val (.ref b10), .val (.ref b19), .val (.int (1 : Int32)), .val (.int (0 : Int32)), .val (.int (0 : Int32)), .val (.int (1 : Int32))] []) _
  refine own_st (fun t k => XS.iload X28.here hx rfl (hb hby at_192) rfl k) ?_
  show own_Go p e below T28 (mkF m 194 #[.val (.int p0), .val (.int p1), .val (.int p2), .val (.ref b1), .val (.ref b10), .val (.ref b19), .val (.int (1 : Int32)), .val (.int (0 : Int32)), .val (.int (0 : Int32)), .val (.int (1 : Int32))] [(.int (1 : Int32))]) _
  refine own_st (fun t k => XS.iload X28.here hx rfl (hb hby at_194) rfl k) ?_
  show own_Go p e below T28 (mkF m 196 #[.val (.int p0), .val (.int p1), .val (.int p2), .val (.ref b1), .val (.ref b10), .val (.ref b19), .val (.int (1 : Int32)), .val (.int (0 : Int32)), .val (.int (0 : Int32)), .val (.int (1 : Int32))] [(.int (1 : Int32)), (.int (1 : Int32))]) _
  refine own_st (fun t k => XS.iload X28.here hx rfl (hb hby at_196) rfl k) ?_
  show own_Go p e below T28 (mkF m 198 #[.val (.int p0), .val (.int p1), .val (.int p2), .val (.ref b1), .val (.ref b10), .val (.ref b19), .val (.int (1 : Int32)), .val (.int (0 : Int32)), .val (.int (0 : Int32)), .val (.int (1 : Int32))] [(.int (0 : Int32)), (.int (1 : Int32)), (.int (1 : Int32))]) _
  refine own_st (fun t k => XS.ifNo X28.here hx rfl (hb hby at_198) rfl (by decide) k) ?_
  show own_Go p e below T28 (mkF m 201 #[.val (.int p0), .val (.int p1), .val (.int p2), .val (.ref b1), .val (.ref b10), .val (.ref b19), .val (.int (1 : Int32)), .val (.int (0 : Int32)), .val (.int (0 : Int32)), .val (.int (1 : Int32))] [(.int (1 : Int32)), (.int (1 : Int32))]) _
  refine own_st (fun t k => XS.iconst X28.here hx rfl (hb hby at_201) k) ?_
  show own_Go p e below T28 (mkF m 202 #[.val (.int p0), .val (.int p1), .val (.int p2), .val (.ref b1), .val (.ref b10), .val (.ref b19), .val (.int (1 : Int32)), .val (.int (0 : Int32)), .val (.int (0 : Int32)), .val (.int (1 : Int32))] [(.int (1 : Int32)), (.int (1 : Int32)), (.int (1 : Int32))]) _
  refine own_st (fun t k => XS.goto X28.here hx rfl (pc0 := 202) (pc' := 206) rfl (hb hby at_202) (by decide) (by decide) k) ?_
  show own_Go p e below T28 (mkF m 206 #[.val (.int p0), .val (.int p1), .val (.int p2), .val (.ref b1), .val (.ref b10), .val (.ref b19), .val (.int (1 : Int32)), .val (.int (0 : Int32)), .val (.int (0 : Int32)), .val (.int (1 : Int32))] [(.int (1 : Int32)), (.int (1 : Int32)), (.int (1 : Int32))]) _
  refine own_st (fun t k => XS.icmpNo X28.here hx rfl (hb hby at_206) rfl (by decide) k) ?_
  show own_Go p e below T28 (mkF m 209 #[.val (.int p0), .val (.int p1), .val (.int p2), .val (.ref b1), .val (.ref b10), .val (.ref b19), .val (.int (1 : Int32)), .val (.int (0 : Int32)), .val (.int (0 : Int32)), .val (.int (1 : Int32))] [(.int (1 : Int32))]) _
  refine own_st (fun t k => XS.iconst X28.here hx rfl (hb hby at_209) k) ?_
  show own_Go p e below T28 (mkF m 210 #[.val (.int p0), .val (.int p1), .val (.int p2), .val (.ref b1), .val (.ref b10), .val (.ref b19), .val (.int (1 : Int32)), .val (.int (0 : Int32)), .val (.int (0 : Int32)), .val (.int (1 : Int32))] [(.int (1 : Int32)), (.int (1 : Int32))]) _
  refine own_st (fun t k => XS.goto X28.here hx rfl (pc0 := 210) (pc' := 214) rfl (hb hby at_210) (by decide) (by decide) k) ?_
  show own_Go p e below T28 (mkF m 214 #[.val (.int p0), .val (.int p1), .val (.int p2), .val (.ref b1), .val (.ref b10), .val (.ref b19), .val (.int (1 : Int32)), .val (.int (0 : Int32)), .val (.int (0 : Int32)), .val (.int (1 : Int32))] [(.int (1 : Int32)), (.int (1 : Int32))]) _
  refine own_st (fun t k => XS.iand X28.here hx rfl (hb hby at_214) rfl k) ?_
  show own_Go p e below T28 (mkF m 215 #[.val (.int p0), .val (.int p1), .val (.int p2), .val (.ref b1), .val (.ref b10), .val (.ref b19), .val (.int (1 : Int32)), .val (.int (0 : Int32)), .val (.int (0 : Int32)), .val (.int (1 : Int32))] [(.int (1 : Int32))]) _
  refine own_st (fun t k => XS.istore X28.here hx rfl (hb hby at_215) rfl (l' := #[.val (.int p0), .val (.int p1), .val (.int p2), .val (.ref b1), .val (.ref b10), .val (.ref b19), .val (.int (1 : Int32)), .val (.int (0 : Int32)), .val (.int (0 : Int32)), .val (.int (1 : Int32))]) rfl k) ?_
  show own_Go p e below T28 (mkF m 217 #[.val (.int p0), .val (.int p1), .val (.int p2), .val (.ref b1), .val (.ref b10), .val (.ref b19), .val (.int (1 : Int32)), .val (.int (0 : Int32)), .val (.int (0 : Int32)), .val (.int (1 : Int32))] []) _
  refine own_st (fun t k => XS.iload X28.here hx rfl (hb hby at_217) rfl k) ?_
  show own_Go p e below T28 (mkF m 219 #[.val (.int p0), .val (.int p1), .val (.int p2), .val (.ref b1), .val (.ref b10), .val (.ref b19), .val (.int (1 : Int32)), .val (.int (0 : Int32)), .val (.int (0 : Int32)), .val (.int (1 : Int32))] [(.int (1 : Int32))]) _
  refine own_st (fun t k => XS.aload X28.here hx rfl (hb hby at_219) rfl rfl k) ?_
  show own_Go p e below T28 (mkF m 221 #[.val (.int p0), .val (.int p1), .val (.int p2), .val (.ref b1), .val (.ref b10), .val (.ref b19), .val (.int (1 : Int32)), .val (.int (0 : Int32)), .val (.int (0 : Int32)), .val (.int (1 : Int32))] [(.ref b19), (.int (1 : Int32))]) _
  have f30 := (Nat.le_trans f24 Kq28.1)
  have f32 := (f26.keep Kq28)
  obtain ⟨cq31, kq31, qa31, qb31, qc31⟩ := isOf hZ rfl f32
  obtain ⟨_, _, ⟨T31, L31, k31, n31⟩, -, X31, ⟨Lc31, hQ31, l31, y31, z31⟩, st31⟩ := X28.virtualBack hx (y := (⟨"com/example/phlow/phlow/policy/PolicyClass", "isForeign", "()Z"⟩ : MethodName)) (z := (⟨"com/example/phlow/phlow/policy/PolicyClass", "isForeign", "()Z"⟩ : MethodName)) hown (mvT hZ (hw _ (List.mem_of_getElem? (i := 69) rfl))) (mvT hZ (hw _ (List.mem_of_getElem? (i := 70) rfl))) (notFace_of_selects (args := #[]) (mvT hZ (hw _ (List.mem_of_getElem? (i := 72) rfl)))) (mvT hZ (hw _ (List.mem_of_getElem? (i := 72) rfl))) (mvT hZ (hw _ (List.mem_of_getElem? (i := 71) rfl))) (by decide) (backOf (W := 1) (rmIF l Z a0 hw [] b19 ((1 : Int32)) T28.heap n0 f30 q28_0 (by decide)) hZ (hw _ (List.mem_of_getElem? (i := 73) rfl)) (hw _ (List.mem_of_getElem? (i := 32) rfl)) (by decide) (by decide)) qa31 qc31 (g := (mkF m 221 #[.val (.int p0), .val (.int p1), .val (.int p2), .val (.ref b1), .val (.ref b10), .val (.ref b19), .val (.int (1 : Int32)), .val (.int (0 : Int32)), .val (.int (0 : Int32)), .val (.int (1 : Int32))] [(.ref b19), (.int (1 : Int32))])) rfl (by rw [hml]; rfl) (Steps.refl _) (argsL := []) (rest := [(.int (1 : Int32))]) (lenOf pd___Z rfl) rfl (by show 2 * 0 + _ ≤ _; exact Nat.le_of_eq rfl) (hb hby at_221) (fun _ _ => ⟨rfl, rfl, (by decide : 6 + 0 ≤ _), (by decide : 36 + 0 ≤ _)⟩)
  dsimp only [Pt.U, Pt.locs, Pt.cells, Pt.slots] at X31 l31 y31 z31 st31 hQ31
  subst l31 y31 z31
  obtain ⟨rfl, Nq31, eH31⟩ := hQ31
  have N31 := Fr.app N28 Nq31
  refine own_tr st31 ?_
  show own_Go p e below T31 (mkF m 224 #[.val (.int p0), .val (.int p1), .val (.int p2), .val (.ref b1), .val (.ref b10), .val (.ref b19), .val (.int (1 : Int32)), .val (.int (0 : Int32)), .val (.int (0 : Int32)), .val (.int (1 : Int32))] [(.int (1 : Int32)), (.int (1 : Int32))]) _
  refine own_st (fun t k => XS.iand X31.here hx rfl (hb hby at_224) rfl k) ?_
  show own_Go p e below T31 (mkF m 225 #[.val (.int p0), .val (.int p1), .val (.int p2), .val (.ref b1), .val (.ref b10), .val (.ref b19), .val (.int (1 : Int32)), .val (.int (0 : Int32)), .val (.int (0 : Int32)), .val (.int (1 : Int32))] [(.int (1 : Int32))]) _
  refine own_st (fun t k => XS.istore X31.here hx rfl (hb hby at_225) rfl (l' := #[.val (.int p0), .val (.int p1), .val (.int p2), .val (.ref b1), .val (.ref b10), .val (.ref b19), .val (.int (1 : Int32)), .val (.int (0 : Int32)), .val (.int (0 : Int32)), .val (.int (1 : Int32))]) rfl k) ?_
  show own_Go p e below T31 (mkF m 227 #[.val (.int p0), .val (.int p1), .val (.int p2), .val (.ref b1), .val (.ref b10), .val (.ref b19), .val (.int (1 : Int32)), .val (.int (0 : Int32)), .val (.int (0 : Int32)), .val (.int (1 : Int32))] []) _
  refine own_st (fun t k => XS.iload X31.here hx rfl (hb hby at_227) rfl k) ?_
  show own_Go p e below T31 (mkF m 229 #[.val (.int p0), .val (.int p1), .val (.int p2), .val (.ref b1), .val (.ref b10), .val (.ref b19), .val (.int (1 : Int32)), .val (.int (0 : Int32)), .val (.int (0 : Int32)), .val (.int (1 : Int32))] [(.int (1 : Int32))]) _
  refine own_st (fun t k => XS.aload X31.here hx rfl (hb hby at_229) rfl rfl k) ?_
  show own_Go p e below T31 (mkF m 231 #[.val (.int p0), .val (.int p1), .val (.int p2), .val (.ref b1), .val (.ref b10), .val (.ref b19), .val (.int (1 : Int32)), .val (.int (0 : Int32)), .val (.int (0 : Int32)), .val (.int (1 : Int32))] [(.ref b19), (.int (1 : Int32))]) _
  obtain ⟨cq33, kq33, qa33, qb33, qc33⟩ := isOf hZ eH31 f32
  obtain ⟨_, _, ⟨T33, L33, k33, n33⟩, -, X33, ⟨Lc33, hQ33, l33, y33, z33⟩, st33⟩ := X31.virtualBack hx (y := (⟨"com/example/phlow/phlow/policy/PolicyClass", "markForeign", "()Z"⟩ : MethodName)) (z := (⟨"com/example/phlow/phlow/policy/PolicyClass", "markForeign", "()Z"⟩ : MethodName)) hown (mvT hZ (hw _ (List.mem_of_getElem? (i := 76) rfl))) (mvT hZ (hw _ (List.mem_of_getElem? (i := 77) rfl))) (notFace_of_selects (args := #[]) (mvT hZ (hw _ (List.mem_of_getElem? (i := 79) rfl)))) (mvT hZ (hw _ (List.mem_of_getElem? (i := 79) rfl))) (mvT hZ (hw _ (List.mem_of_getElem? (i := 78) rfl))) (by decide) (backOf (W := 1) (rmMF1 l Z a0 hw [] b19 b10 T28.heap n0 f30 f32 q28_0 q28_1 G19) hZ (hw _ (List.mem_of_getElem? (i := 80) rfl)) (hw _ (List.mem_of_getElem? (i := 32) rfl)) (by decide) (by decide)) qa33 qc33 (g := (mkF m 231 #[.val (.int p0), .val (.int p1), .val (.int p2), .val (.ref b1), .val (.ref b10), .val (.ref b19), .val (.int (1 : Int32)), .val (.int (0 : Int32)), .val (.int (0 : Int32)), .val (.int (1 : Int32))] [(.ref b19), (.int (1 : Int32))])) rfl (by rw [hml]; rfl) (Steps.refl _) (argsL := []) (rest := [(.int (1 : Int32))]) (lenOf pd___Z rfl) rfl (by show 2 * 0 + _ ≤ _; exact Nat.le_of_eq rfl) (hb hby at_231) (fun _ _ => ⟨rfl, eH31, (by decide : 6 + 0 ≤ _), (by decide : 36 + 0 ≤ _)⟩)
  dsimp only [Pt.U, Pt.locs, Pt.cells, Pt.slots] at X33 l33 y33 z33 st33 hQ33
  subst l33 y33 z33
  obtain ⟨rfl, Nq33, Kq33, q33_0, q33_1⟩ := hQ33
  have N33 := Fr.app N31 Nq33
  have K34 : Keep h0 T33.heap [] := K29.trans Kq33 (allS (Or.inr B19) all0)
  refine own_tr st33 ?_
  show own_Go p e below T33 (mkF m 234 #[.val (.int p0), .val (.int p1), .val (.int p2), .val (.ref b1), .val (.ref b10), .val (.ref b19), .val (.int (1 : Int32)), .val (.int (0 : Int32)), .val (.int (0 : Int32)), .val (.int (1 : Int32))] [(.int (0 : Int32)), (.int (1 : Int32))]) _
  refine own_st (fun t k => XS.ifNo X33.here hx rfl (hb hby at_234) rfl (by decide) k) ?_
  show own_Go p e below T33 (mkF m 237 #[.val (.int p0), .val (.int p1), .val (.int p2), .val (.ref b1), .val (.ref b10), .val (.ref b19), .val (.int (1 : Int32)), .val (.int (0 : Int32)), .val (.int (0 : Int32)), .val (.int (1 : Int32))] [(.int (1 : Int32))]) _
  refine own_st (fun t k => XS.iconst X33.here hx rfl (hb hby at_237) k) ?_
  show own_Go p e below T33 (mkF m 238 #[.val (.int p0), .val (.int p1), .val (.int p2), .val (.ref b1), .val (.ref b10), .val (.ref b19), .val (.int (1 : Int32)), .val (.int (0 : Int32)), .val (.int (0 : Int32)), .val (.int (1 : Int32))] [(.int (1 : Int32)), (.int (1 : Int32))]) _
  refine own_st (fun t k => XS.goto X33.here hx rfl (pc0 := 238) (pc' := 242) rfl (hb hby at_238) (by decide) (by decide) k) ?_
  show own_Go p e below T33 (mkF m 242 #[.val (.int p0), .val (.int p1), .val (.int p2), .val (.ref b1), .val (.ref b10), .val (.ref b19), .val (.int (1 : Int32)), .val (.int (0 : Int32)), .val (.int (0 : Int32)), .val (.int (1 : Int32))] [(.int (1 : Int32)), (.int (1 : Int32))]) _
  refine own_st (fun t k => XS.iand X33.here hx rfl (hb hby at_242) rfl k) ?_
  show own_Go p e below T33 (mkF m 243 #[.val (.int p0), .val (.int p1), .val (.int p2), .val (.ref b1), .val (.ref b10), .val (.ref b19), .val (.int (1 : Int32)), .val (.int (0 : Int32)), .val (.int (0 : Int32)), .val (.int (1 : Int32))] [(.int (1 : Int32))]) _
  refine own_st (fun t k => XS.istore X33.here hx rfl (hb hby at_243) rfl (l' := #[.val (.int p0), .val (.int p1), .val (.int p2), .val (.ref b1), .val (.ref b10), .val (.ref b19), .val (.int (1 : Int32)), .val (.int (0 : Int32)), .val (.int (0 : Int32)), .val (.int (1 : Int32))]) rfl k) ?_
  show own_Go p e below T33 (mkF m 245 #[.val (.int p0), .val (.int p1), .val (.int p2), .val (.ref b1), .val (.ref b10), .val (.ref b19), .val (.int (1 : Int32)), .val (.int (0 : Int32)), .val (.int (0 : Int32)), .val (.int (1 : Int32))] []) _
  refine own_st (fun t k => XS.iload X33.here hx rfl (hb hby at_245) rfl k) ?_
  show own_Go p e below T33 (mkF m 247 #[.val (.int p0), .val (.int p1), .val (.int p2), .val (.ref b1), .val (.ref b10), .val (.ref b19), .val (.int (1 : Int32)), .val (.int (0 : Int32)), .val (.int (0 : Int32)), .val (.int (1 : Int32))] [(.int (1 : Int32))]) _
  refine own_st (fun t k => XS.aload X33.here hx rfl (hb hby at_247) rfl rfl k) ?_
  show own_Go p e below T33 (mkF m 249 #[.val (.int p0), .val (.int p1), .val (.int p2), .val (.ref b1), .val (.ref b10), .val (.ref b19), .val (.int (1 : Int32)), .val (.int (0 : Int32)), .val (.int (0 : Int32)), .val (.int (1 : Int32))] [(.ref b19), (.int (1 : Int32))]) _
  have f35 := (Nat.le_trans f30 Kq33.1)
  have f37 := (f32.keep Kq33)
  obtain ⟨cq36, kq36, qa36, qb36, qc36⟩ := isOf hZ rfl f37
  obtain ⟨_, _, ⟨T36, L36, k36, n36⟩, -, X36, ⟨Lc36, hQ36, l36, y36, z36⟩, st36⟩ := X33.virtualBack hx (y := (⟨"com/example/phlow/phlow/policy/PolicyClass", "isForeign", "()Z"⟩ : MethodName)) (z := (⟨"com/example/phlow/phlow/policy/PolicyClass", "isForeign", "()Z"⟩ : MethodName)) hown (mvT hZ (hw _ (List.mem_of_getElem? (i := 69) rfl))) (mvT hZ (hw _ (List.mem_of_getElem? (i := 70) rfl))) (notFace_of_selects (args := #[]) (mvT hZ (hw _ (List.mem_of_getElem? (i := 72) rfl)))) (mvT hZ (hw _ (List.mem_of_getElem? (i := 72) rfl))) (mvT hZ (hw _ (List.mem_of_getElem? (i := 71) rfl))) (by decide) (backOf (W := 1) (rmIF l Z a0 hw [] b19 ((1 : Int32)) T33.heap n0 f35 q33_0 (by decide)) hZ (hw _ (List.mem_of_getElem? (i := 73) rfl)) (hw _ (List.mem_of_getElem? (i := 32) rfl)) (by decide) (by decide)) qa36 qc36 (g := (mkF m 249 #[.val (.int p0), .val (.int p1), .val (.int p2), .val (.ref b1), .val (.ref b10), .val (.ref b19), .val (.int (1 : Int32)), .val (.int (0 : Int32)), .val (.int (0 : Int32)), .val (.int (1 : Int32))] [(.ref b19), (.int (1 : Int32))])) rfl (by rw [hml]; rfl) (Steps.refl _) (argsL := []) (rest := [(.int (1 : Int32))]) (lenOf pd___Z rfl) rfl (by show 2 * 0 + _ ≤ _; exact Nat.le_of_eq rfl) (hb hby at_249) (fun _ _ => ⟨rfl, rfl, (by decide : 6 + 0 ≤ _), (by decide : 36 + 0 ≤ _)⟩)
  dsimp only [Pt.U, Pt.locs, Pt.cells, Pt.slots] at X36 l36 y36 z36 st36 hQ36
  subst l36 y36 z36
  obtain ⟨rfl, Nq36, eH36⟩ := hQ36
  have N36 := Fr.app N33 Nq36
  refine own_tr st36 ?_
  show own_Go p e below T36 (mkF m 252 #[.val (.int p0), .val (.int p1), .val (.int p2), .val (.ref b1), .val (.ref b10), .val (.ref b19), .val (.int (1 : Int32)), .val (.int (0 : Int32)), .val (.int (0 : Int32)), .val (.int (1 : Int32))] [(.int (1 : Int32)), (.int (1 : Int32))]) _
  refine own_st (fun t k => XS.iand X36.here hx rfl (hb hby at_252) rfl k) ?_
  show own_Go p e below T36 (mkF m 253 #[.val (.int p0), .val (.int p1), .val (.int p2), .val (.ref b1), .val (.ref b10), .val (.ref b19), .val (.int (1 : Int32)), .val (.int (0 : Int32)), .val (.int (0 : Int32)), .val (.int (1 : Int32))] [(.int (1 : Int32))]) _
  refine own_st (fun t k => XS.istore X36.here hx rfl (hb hby at_253) rfl (l' := #[.val (.int p0), .val (.int p1), .val (.int p2), .val (.ref b1), .val (.ref b10), .val (.ref b19), .val (.int (1 : Int32)), .val (.int (0 : Int32)), .val (.int (0 : Int32)), .val (.int (1 : Int32))]) rfl k) ?_
  show own_Go p e below T36 (mkF m 255 #[.val (.int p0), .val (.int p1), .val (.int p2), .val (.ref b1), .val (.ref b10), .val (.ref b19), .val (.int (1 : Int32)), .val (.int (0 : Int32)), .val (.int (0 : Int32)), .val (.int (1 : Int32))] []) _
  refine own_st (fun t k => XS.iload X36.here hx rfl (hb hby at_255) rfl k) ?_
  show own_Go p e below T36 (mkF m 257 #[.val (.int p0), .val (.int p1), .val (.int p2), .val (.ref b1), .val (.ref b10), .val (.ref b19), .val (.int (1 : Int32)), .val (.int (0 : Int32)), .val (.int (0 : Int32)), .val (.int (1 : Int32))] [(.int (1 : Int32))]) _
  refine own_st (fun t k => XS.aload X36.here hx rfl (hb hby at_257) rfl rfl k) ?_
  show own_Go p e below T36 (mkF m 259 #[.val (.int p0), .val (.int p1), .val (.int p2), .val (.ref b1), .val (.ref b10), .val (.ref b19), .val (.int (1 : Int32)), .val (.int (0 : Int32)), .val (.int (0 : Int32)), .val (.int (1 : Int32))] [(.ref b19), (.int (1 : Int32))]) _
  obtain ⟨cq38, kq38, qa38, qb38, qc38⟩ := isOf hZ eH36 f37
  obtain ⟨_, _, ⟨T38, L38, k38, n38⟩, -, X38, ⟨Lc38, hQ38, l38, y38, z38⟩, st38⟩ := X36.virtualBack hx (y := (⟨"com/example/phlow/phlow/policy/PolicyClass", "name", "()Ljava/lang/String;"⟩ : MethodName)) (z := (⟨"com/example/phlow/phlow/policy/PolicyClass", "name", "()Ljava/lang/String;"⟩ : MethodName)) hown (mvT hZ (hw _ (List.mem_of_getElem? (i := 81) rfl))) (mvT hZ (hw _ (List.mem_of_getElem? (i := 82) rfl))) (notFace_of_selects (args := #[]) (mvT hZ (hw _ (List.mem_of_getElem? (i := 84) rfl)))) (mvT hZ (hw _ (List.mem_of_getElem? (i := 84) rfl))) (mvT hZ (hw _ (List.mem_of_getElem? (i := 83) rfl))) (by decide) (backOf (W := 1) (rmNM l Z a0 hw [] b19 b10 T33.heap n0 f35 q33_1) hZ (hw _ (List.mem_of_getElem? (i := 85) rfl)) (hw _ (List.mem_of_getElem? (i := 32) rfl)) (by decide) (by decide)) qa38 qc38 (g := (mkF m 259 #[.val (.int p0), .val (.int p1), .val (.int p2), .val (.ref b1), .val (.ref b10), .val (.ref b19), .val (.int (1 : Int32)), .val (.int (0 : Int32)), .val (.int (0 : Int32)), .val (.int (1 : Int32))] [(.ref b19), (.int (1 : Int32))])) rfl (by rw [hml]; rfl) (Steps.refl _) (argsL := []) (rest := [(.int (1 : Int32))]) (lenOf pd___Ljava_lang_String_ rfl) rfl (by show 2 * 0 + _ ≤ _; exact Nat.le_of_eq rfl) (hb hby at_259) (fun _ _ => ⟨rfl, eH36, (by decide : 6 + 0 ≤ _), (by decide : 36 + 0 ≤ _)⟩)
  dsimp only [Pt.U, Pt.locs, Pt.cells, Pt.slots] at X38 l38 y38 z38 st38 hQ38
  subst l38 y38 z38
  obtain ⟨rfl, Nq38, eH38⟩ := hQ38
  have N38 := Fr.app N36 Nq38
  refine own_tr st38 ?_
  show own_Go p e below T38 (mkF m 262 #[.val (.int p0), .val (.int p1), .val (.int p2), .val (.ref b1), .val (.ref b10), .val (.ref b19), .val (.int (1 : Int32)), .val (.int (0 : Int32)), .val (.int (0 : Int32)), .val (.int (1 : Int32))] [(.ref b10), (.int (1 : Int32))]) _
  refine own_st (fun t k => XS.aload X38.here hx rfl (hb hby at_262) rfl rfl k) ?_
  show own_Go p e below T38 (mkF m 264 #[.val (.int p0), .val (.int p1), .val (.int p2), .val (.ref b1), .val (.ref b10), .val (.ref b19), .val (.int (1 : Int32)), .val (.int (0 : Int32)), .val (.int (0 : Int32)), .val (.int (1 : Int32))] [(.ref b10), (.ref b10), (.int (1 : Int32))]) _
  refine own_st (fun t k => Jvm.RoadKit.acmp (g := (mkF m 264 #[.val (.int p0), .val (.int p1), .val (.int p2), .val (.ref b1), .val (.ref b10), .val (.ref b19), .val (.int (1 : Int32)), .val (.int (0 : Int32)), .val (.int (0 : Int32)), .val (.int (1 : Int32))] [(.ref b10), (.ref b10), (.int (1 : Int32))])) X38 hx rfl rfl rfl (pc0 := 264) (pc' := 267) (same := true) rfl (hb hby at_264) rfl (decide_eq_true rfl) (by decide) (by decide) k) ?_
  show own_Go p e below T38 (mkF m 267 #[.val (.int p0), .val (.int p1), .val (.int p2), .val (.ref b1), .val (.ref b10), .val (.ref b19), .val (.int (1 : Int32)), .val (.int (0 : Int32)), .val (.int (0 : Int32)), .val (.int (1 : Int32))] [(.int (1 : Int32))]) _
  refine own_st (fun t k => XS.iconst X38.here hx rfl (hb hby at_267) k) ?_
  show own_Go p e below T38 (mkF m 268 #[.val (.int p0), .val (.int p1), .val (.int p2), .val (.ref b1), .val (.ref b10), .val (.ref b19), .val (.int (1 : Int32)), .val (.int (0 : Int32)), .val (.int (0 : Int32)), .val (.int (1 : Int32))] [(.int (1 : Int32)), (.int (1 : Int32))]) _
  refine own_st (fun t k => XS.goto X38.here hx rfl (pc0 := 268) (pc' := 272) rfl (hb hby at_268) (by decide) (by decide) k) ?_
  show own_Go p e below T38 (mkF m 272 #[.val (.int p0), .val (.int p1), .val (.int p2), .val (.ref b1), .val (.ref b10), .val (.ref b19), .val (.int (1 : Int32)), .val (.int (0 : Int32)), .val (.int (0 : Int32)), .val (.int (1 : Int32))] [(.int (1 : Int32)), (.int (1 : Int32))]) _
  refine own_st (fun t k => XS.iand X38.here hx rfl (hb hby at_272) rfl k) ?_
  show own_Go p e below T38 (mkF m 273 #[.val (.int p0), .val (.int p1), .val (.int p2), .val (.ref b1), .val (.ref b10), .val (.ref b19), .val (.int (1 : Int32)), .val (.int (0 : Int32)), .val (.int (0 : Int32)), .val (.int (1 : Int32))] [(.int (1 : Int32))]) _
  refine own_st (fun t k => XS.istore X38.here hx rfl (hb hby at_273) rfl (l' := #[.val (.int p0), .val (.int p1), .val (.int p2), .val (.ref b1), .val (.ref b10), .val (.ref b19), .val (.int (1 : Int32)), .val (.int (0 : Int32)), .val (.int (0 : Int32)), .val (.int (1 : Int32))]) rfl k) ?_
  show own_Go p e below T38 (mkF m 275 #[.val (.int p0), .val (.int p1), .val (.int p2), .val (.ref b1), .val (.ref b10), .val (.ref b19), .val (.int (1 : Int32)), .val (.int (0 : Int32)), .val (.int (0 : Int32)), .val (.int (1 : Int32))] []) _
  refine own_st (fun t k => XS.iload X38.here hx rfl (hb hby at_275) rfl k) ?_
  show own_Go p e below T38 (mkF m 277 #[.val (.int p0), .val (.int p1), .val (.int p2), .val (.ref b1), .val (.ref b10), .val (.ref b19), .val (.int (1 : Int32)), .val (.int (0 : Int32)), .val (.int (0 : Int32)), .val (.int (1 : Int32))] [(.int (1 : Int32))]) _
  obtain ⟨fs, hr, hrun, hended, hW, hsame⟩ := X38.leave (v := some (.int (1 : Int32))) (fun h => by rw [Bd.returns] at h; cases h)
  refine own_fin (retN X38 hx (t := .boolean) Bd.returns (by simp) (hb hby at_277) hr) ⟨hrun, hended, _, _, rfl, ?_, ⟨_, rfl⟩, hW, hsame.mono (by decide) (by decide)⟩
  show Q_rmLaw0 Z p0 p1 p2 zc h0 n0 _ T38.heap _
  rw [eH38]
  exact ⟨rfl, N38, K34⟩
theorem ef_rmLaw1 (m : MethodId) (x0 : Int32) (x1 : Int32) (x2 : Int32) : entryFrame m #[(.int x0), (.int x1), (.int x2)] maxLocals = mkF m 0 #[.val (.int x0), .val (.int x1), .val (.int x2), .unset, .unset, .unset, .unset, .unset, .unset, .unset] [] := by first | (simp [entryFrame, mkF, argsToLocals, Value.category, maxLocals]; done) | rfl
def Q_rmLaw1 (Z : State) (p0 : Int32) (p1 : Int32) (p2 : Int32) (zc : Int32) (h0 : Heap) (n0 : Nat) (v : Option Value) (h : Heap) (L : List Loc) : Prop := v = some (.int (1 : Int32)) ∧ Fr n0 L ∧ Keep h0 h []
set_option maxRecDepth 65536 in
set_option maxHeartbeats 40000000 in
theorem rmLaw1 (l : Launch) (Z : State) (a0 : Array Value) (hw : ∀ d ∈ tables_1, d.before a0 Z = true) (ws : List Jvm.Cond) (p0 : Int32) (p1 : Int32) (p2 : Int32) (zc : Int32) (h0 : Heap) (n0 : Nat) (Z0 : n0 ≤ h0.size) (pS_COMPACT_STRINGS : Sta Z Z.heap "java/lang/String" "COMPACT_STRINGS" "Z" (.int zc)) (pP5 : ¬ (zc = (0 : Int32))) (pO : Old Z n0 h0) (hpre : p2 &&& (3 : Int32) = (1 : Int32)) :
    MetFree l x (head1 (Jvm.Cond.code x code maxLocals ret :: ws) room_1) (fun a U => a = #[(.int p0), (.int p1), (.int p2)] ∧ Z.Warmed39 U.vm ∧ U.heap = h0) (fun _ _ _ _ _ => True) (fun _ U o U' => ∃ v L, o = .returned v ∧ Q_rmLaw1 Z p0 p1 p2 zc h0 n0 v U'.heap L ∧ FrameEnd U o U' L 24 192) := by
  refine MetFree.of_bodySF (plainFor_of_name pn_0) hisR ?_
  intro p e s m args below meth c s₁ Bd hml0 hP hK
  obtain ⟨rfl, hZ, hh⟩ := hP
  have hx := Bd.exec
  have hby := Bd.bytes
  have hml : c.maxLocals = 10 := hml0
  have hown : s.vm.findClass "com/example/phlow/phlow/policy/PolicyClassMarkForeignPinLaw" = some m.cls := findClass_of_methodNamed Bd.named
  have hnm := (name_of_methodNamed Bd.named Bd.method).1
  have X0 : Stand p l e room_1 s m #[(.int p0), (.int p1), (.int p2)] below meth c s₁ [] 0 0 := Stand.of_body Bd
  have e0 : s₁.heap = h0 := by rw [← hh, Bd.state]; rfl
  have N0 := Fr.nil n0
  refine own_enter (ef_rmLaw1 m p0 p1 p2) ?_
  have hws : ∀ d ∈ StrChars.Road.words, d.before a0 Z = true := fun d hd => hw d ((by decide +kernel : ∀ d ∈ StrChars.Road.words, d ∈ tables_1) d hd)
  refine own_st (fun t k => XS.iconst X0.here hx rfl (hb hby at_0) k) ?_
  show own_Go p e below s₁ (mkF m 1 #[.val (.int p0), .val (.int p1), .val (.int p2), .unset, .unset, .unset, .unset, .unset, .unset, .unset] [(.int (2 : Int32))]) _
  obtain ⟨T1, h1, k1, X1, e1, E1, A1, st1⟩ := newP X0 hx hZ (hw _ (List.mem_of_getElem? (i := 0) rfl)) e0 (g := (mkF m 1 #[.val (.int p0), .val (.int p1), .val (.int p2), .unset, .unset, .unset, .unset, .unset, .unset, .unset] [(.int (2 : Int32))])) rfl (hb hby at_1) rfl (by decide) (cap := 2) (by decide) (by decide) (by decide) (by decide)
  obtain ⟨b1, g1⟩ : ∃ z, z = h0.size := ⟨_, rfl⟩
  rw [← g1] at A1 st1
  have G1 : n0 ≤ b1 := Nat.le_trans Z0 (Nat.le_of_eq g1.symm)
  have B1 : h0.size ≤ b1 := Nat.le_trans (Keep.refl h0 []).1 (Nat.le_of_eq g1.symm)
  have K2 : Keep h0 h1 [] := (Keep.refl h0 []).ext E1
  have V1 : Arv Z h1 b1 k1 .char (2 : Int32) [(.int (0 : Int32)), (.int (0 : Int32))] (.int (0 : Int32)) := (Arv.new A1 (by decide)).pad (pad_rep [] (.int (0 : Int32)) 2)
  refine own_st st1 ?_
  show own_Go p e below T1 (mkF m 3 #[.val (.int p0), .val (.int p1), .val (.int p2), .unset, .unset, .unset, .unset, .unset, .unset, .unset] [(.ref b1)]) _
  refine own_st (fun t k => XS.astoreN X1.here hx rfl (hb hby at_3) rfl rfl (l' := #[.val (.int p0), .val (.int p1), .val (.int p2), .val (.ref b1), .unset, .unset, .unset, .unset, .unset, .unset]) rfl k) ?_
  show own_Go p e below T1 (mkF m 4 #[.val (.int p0), .val (.int p1), .val (.int p2), .val (.ref b1), .unset, .unset, .unset, .unset, .unset, .unset] []) _
  refine own_st (fun t k => XS.aloadN X1.here hx rfl (hb hby at_4) rfl rfl k) ?_
  show own_Go p e below T1 (mkF m 5 #[.val (.int p0), .val (.int p1), .val (.int p2), .val (.ref b1), .unset, .unset, .unset, .unset, .unset, .unset] [(.ref b1)]) _
  refine own_st (fun t k => XS.iconst X1.here hx rfl (hb hby at_5) k) ?_
  show own_Go p e below T1 (mkF m 6 #[.val (.int p0), .val (.int p1), .val (.int p2), .val (.ref b1), .unset, .unset, .unset, .unset, .unset, .unset] [(.int (0 : Int32)), (.ref b1)]) _
  refine own_st (fun t k => XS.iloadN X1.here hx rfl (hb hby at_6) rfl k) ?_
  show own_Go p e below T1 (mkF m 7 #[.val (.int p0), .val (.int p1), .val (.int p2), .val (.ref b1), .unset, .unset, .unset, .unset, .unset, .unset] [(.int p0), (.int (0 : Int32)), (.ref b1)]) _
  refine own_st (fun t k => XS.sipush X1.here hx rfl (hb hby at_7) k) ?_
  show own_Go p e below T1 (mkF m 10 #[.val (.int p0), .val (.int p1), .val (.int p2), .val (.ref b1), .unset, .unset, .unset, .unset, .unset, .unset] [(.int (255 : Int32)), (.int p0), (.int (0 : Int32)), (.ref b1)]) _
  refine own_st (fun t k => XS.iand X1.here hx rfl (hb hby at_10) rfl k) ?_
  show own_Go p e below T1 (mkF m 11 #[.val (.int p0), .val (.int p1), .val (.int p2), .val (.ref b1), .unset, .unset, .unset, .unset, .unset, .unset] [(.int (p0 &&& (255 : Int32))), (.int (0 : Int32)), (.ref b1)]) _
  refine own_st (fun t k => XS.i2c X1.here hx rfl (hb hby at_11) rfl k) ?_
  show own_Go p e below T1 (mkF m 12 #[.val (.int p0), .val (.int p1), .val (.int p2), .val (.ref b1), .unset, .unset, .unset, .unset, .unset, .unset] [(.int ((p0 &&& (255 : Int32)).toUInt32.toUInt16.toUInt32.toInt32)), (.int (0 : Int32)), (.ref b1)]) _
  obtain ⟨cl3, Ar3, q3, Sz3, Nn3, Hh3, Gg3⟩ := V1
  have hin3 : ¬ ((0 : Int32) < 0 ∨ cl3.slots.size ≤ ((0 : Int32)).toNatClampNeg) := inb_of Sz3 ⟨by decide, by decide⟩
  obtain ⟨T4, h4, X4, e4, W4, st4⟩ := stC X1 hx hZ e1 Ar3 (j := (0 : Int32)) hin3 (g := (mkF m 12 #[.val (.int p0), .val (.int p1), .val (.int p2), .val (.ref b1), .unset, .unset, .unset, .unset, .unset, .unset] [(.int ((p0 &&& (255 : Int32)).toUInt32.toUInt16.toUInt32.toInt32)), (.int (0 : Int32)), (.ref b1)])) rfl rfl (hb hby at_12)
  have V4 : Arv Z h4 b1 k1 .char (2 : Int32) [(.int (nar .char ((p0 &&& (255 : Int32)).toUInt32.toUInt16.toUInt32.toInt32))), (.int (0 : Int32))] (.int (0 : Int32)) := Arv.set Ar3 q3 Sz3 Nn3 Hh3 Gg3 (fits_nar_char _) W4 0 rfl (Nat.le_of_ble_eq_true rfl)
  have K5 : Keep h0 h4 [] := K2.wr W4 (Or.inr B1)
  have N4 := Fr.snoc X4 N0 G1
  refine own_st st4 ?_
  show own_Go p e below T4 (mkF m 13 #[.val (.int p0), .val (.int p1), .val (.int p2), .val (.ref b1), .unset, .unset, .unset, .unset, .unset, .unset] []) _
  refine own_st (fun t k => XS.aloadN X4.here hx rfl (hb hby at_13) rfl rfl k) ?_
  show own_Go p e below T4 (mkF m 14 #[.val (.int p0), .val (.int p1), .val (.int p2), .val (.ref b1), .unset, .unset, .unset, .unset, .unset, .unset] [(.ref b1)]) _
  refine own_st (fun t k => XS.iconst X4.here hx rfl (hb hby at_14) k) ?_
  show own_Go p e below T4 (mkF m 15 #[.val (.int p0), .val (.int p1), .val (.int p2), .val (.ref b1), .unset, .unset, .unset, .unset, .unset, .unset] [(.int (1 : Int32)), (.ref b1)]) _
  refine own_st (fun t k => XS.iloadN X4.here hx rfl (hb hby at_15) rfl k) ?_
  show own_Go p e below T4 (mkF m 16 #[.val (.int p0), .val (.int p1), .val (.int p2), .val (.ref b1), .unset, .unset, .unset, .unset, .unset, .unset] [(.int p1), (.int (1 : Int32)), (.ref b1)]) _
  refine own_st (fun t k => XS.sipush X4.here hx rfl (hb hby at_16) k) ?_
  show own_Go p e below T4 (mkF m 19 #[.val (.int p0), .val (.int p1), .val (.int p2), .val (.ref b1), .unset, .unset, .unset, .unset, .unset, .unset] [(.int (255 : Int32)), (.int p1), (.int (1 : Int32)), (.ref b1)]) _
  refine own_st (fun t k => XS.iand X4.here hx rfl (hb hby at_19) rfl k) ?_
  show own_Go p e below T4 (mkF m 20 #[.val (.int p0), .val (.int p1), .val (.int p2), .val (.ref b1), .unset, .unset, .unset, .unset, .unset, .unset] [(.int (p1 &&& (255 : Int32))), (.int (1 : Int32)), (.ref b1)]) _
  refine own_st (fun t k => XS.i2c X4.here hx rfl (hb hby at_20) rfl k) ?_
  show own_Go p e below T4 (mkF m 21 #[.val (.int p0), .val (.int p1), .val (.int p2), .val (.ref b1), .unset, .unset, .unset, .unset, .unset, .unset] [(.int ((p1 &&& (255 : Int32)).toUInt32.toUInt16.toUInt32.toInt32)), (.int (1 : Int32)), (.ref b1)]) _
  obtain ⟨cl6, Ar6, q6, Sz6, Nn6, Hh6, Gg6⟩ := V4
  have hin6 : ¬ ((1 : Int32) < 0 ∨ cl6.slots.size ≤ ((1 : Int32)).toNatClampNeg) := inb_of Sz6 ⟨by decide, by decide⟩
  obtain ⟨T7, h7, X7, e7, W7, st7⟩ := stC X4 hx hZ e4 Ar6 (j := (1 : Int32)) hin6 (g := (mkF m 21 #[.val (.int p0), .val (.int p1), .val (.int p2), .val (.ref b1), .unset, .unset, .unset, .unset, .unset, .unset] [(.int ((p1 &&& (255 : Int32)).toUInt32.toUInt16.toUInt32.toInt32)), (.int (1 : Int32)), (.ref b1)])) rfl rfl (hb hby at_21)
  have V7 : Arv Z h7 b1 k1 .char (2 : Int32) [(.int (nar .char ((p0 &&& (255 : Int32)).toUInt32.toUInt16.toUInt32.toInt32))), (.int (nar .char ((p1 &&& (255 : Int32)).toUInt32.toUInt16.toUInt32.toInt32)))] (.int (0 : Int32)) := Arv.set Ar6 q6 Sz6 Nn6 Hh6 Gg6 (fits_nar_char _) W7 1 rfl (Nat.le_of_ble_eq_true rfl)
  have K8 : Keep h0 h7 [] := K5.wr W7 (Or.inr B1)
  have N7 := Fr.snoc X7 N4 G1
  refine own_st st7 ?_
  show own_Go p e below T7 (mkF m 22 #[.val (.int p0), .val (.int p1), .val (.int p2), .val (.ref b1), .unset, .unset, .unset, .unset, .unset, .unset] []) _
  have f9 := (Nat.le_trans (Nat.le_trans (Nat.le_trans Z0 E1.1) (Keep.of_wr W4).1) (Keep.of_wr W7).1)
  obtain ⟨T10, h10, X10, e10, E10, A10, D10, -, st10⟩ := newO X7 hx hZ hown (hw _ (List.mem_of_getElem? (i := 1) rfl)) (hw _ (List.mem_of_getElem? (i := 2) rfl)) (hw _ (List.mem_of_getElem? (i := 3) rfl)) e7 (g := (mkF m 22 #[.val (.int p0), .val (.int p1), .val (.int p2), .val (.ref b1), .unset, .unset, .unset, .unset, .unset, .unset] [])) rfl (hb hby at_22) (by decide) (by decide)
  obtain ⟨b10, g10⟩ : ∃ z, z = h7.size := ⟨_, rfl⟩
  rw [← g10] at A10 D10 st10
  have G10 : n0 ≤ b10 := Nat.le_trans f9 (Nat.le_of_eq g10.symm)
  have B10 : h0.size ≤ b10 := Nat.le_trans K8.1 (Nat.le_of_eq g10.symm)
  have K11 : Keep h0 h10 [] := K8.ext E10
  have D10_coder : Fld Z h10 b10 "java/lang/String" "coder" "B" (.int (0 : Int32)) := D10 (Or.inr (hw _ (List.mem_of_getElem? (i := 27) rfl))) (ty := .byte) (by decide)
  have D10_value : Fld Z h10 b10 "java/lang/String" "value" "[B" .null := D10 (Or.inr (hw _ (List.mem_of_getElem? (i := 29) rfl))) (ty := (.array .byte)) (by decide)
  refine own_st st10 ?_
  show own_Go p e below T10 (mkF m 25 #[.val (.int p0), .val (.int p1), .val (.int p2), .val (.ref b1), .unset, .unset, .unset, .unset, .unset, .unset] [(.ref b10)]) _
  refine own_st (fun t k => XS.dup X10.here hx rfl (hb hby at_25) rfl rfl k) ?_
  show own_Go p e below T10 (mkF m 26 #[.val (.int p0), .val (.int p1), .val (.int p2), .val (.ref b1), .unset, .unset, .unset, .unset, .unset, .unset] [(.ref b10), (.ref b10)]) _
  refine own_st (fun t k => XS.aloadN X10.here hx rfl (hb hby at_26) rfl rfl k) ?_
  show own_Go p e below T10 (mkF m 27 #[.val (.int p0), .val (.int p1), .val (.int p2), .val (.ref b1), .unset, .unset, .unset, .unset, .unset, .unset] [(.ref b1), (.ref b10), (.ref b10)]) _
  have hp : ∀ c ∈ ([nar .char ((p0 &&& (255 : Int32)).toUInt32.toUInt16.toUInt32.toInt32), nar .char ((p1 &&& (255 : Int32)).toUInt32.toUInt16.toUInt32.toInt32)] : List Int32), ¬ c < 0 ∧ ¬ (255 : Int32) < c := by
    intro c hc
    rw [own_narc, own_narc] at hc
    simp only [List.mem_cons, List.not_mem_nil, or_false] at hc
    rcases hc with rfl | rfl
    · exact own_in255 _ (own_m255 p0).1 (own_m255 p0).2
    · exact own_in255 _ (own_m255 p1).1 (own_m255 p1).2
  have f12 := (Nat.le_trans f9 E10.1)
  have f13 := (V7.ext E10)
  have f14 := ((((pO.ext E1).wr W4 G1).wr W7 G1).ext E10)
  obtain ⟨_, _, ⟨T15, L15, k15, n15⟩, -, X15, ⟨Lc15, hQ15, l15, y15, z15⟩, st15⟩ := X10.specialBack hx (y := (⟨"java/lang/String", "<init>", "([C)V"⟩ : MethodName)) rfl hown (mvT hZ (hw _ (List.mem_of_getElem? (i := 4) rfl))) (mvT hZ (hw _ (List.mem_of_getElem? (i := 5) rfl))) (mvT hZ (hw _ (List.mem_of_getElem? (i := 6) rfl))) (by decide) (StrChars.Road.backV (W := 1) hZ hws (kI := 4) (hw _ (List.mem_of_getElem? (i := 2) rfl)) (cs := ([nar .char ((p0 &&& (255 : Int32)).toUInt32.toUInt16.toUInt32.toInt32), nar .char ((p1 &&& (255 : Int32)).toUInt32.toUInt16.toUInt32.toInt32)] : List Int32)) (bs := (([nar .char ((p0 &&& (255 : Int32)).toUInt32.toUInt16.toUInt32.toInt32), nar .char ((p1 &&& (255 : Int32)).toUInt32.toUInt16.toUInt32.toInt32)] : List Int32)).map (fun c => c.toInt8.toInt32)) (n := 2) G10 f12 A10 D10_value D10_coder f13 (pS_COMPACT_STRINGS.ext f14.2) pP5 rfl rfl (by decide) (by decide) hp rfl (by decide) (by decide)) (g := (mkF m 27 #[.val (.int p0), .val (.int p1), .val (.int p2), .val (.ref b1), .unset, .unset, .unset, .unset, .unset, .unset] [(.ref b1), (.ref b10), (.ref b10)])) rfl (by rw [hml]; rfl) (Steps.refl _) (a := b10) (argsL := [(.ref b1)]) (rest := [(.ref b10)]) (lenOf pd___C_V rfl) rfl (by show 2 * 0 + _ ≤ _; exact Nat.le_of_eq rfl) (hb hby at_27) (fun _ _ => ⟨rfl, e10, (by decide : 2 + 1 ≤ _), (by decide : 6 + 2 ≤ _)⟩)
  dsimp only [Pt.U, Pt.locs, Pt.cells, Pt.slots] at X15 l15 y15 z15 st15 hQ15
  subst l15 y15 z15
  obtain ⟨rfl, Nq15, Kq15, q15_E, q15_c, t15, kb15, q15_g, q15_b, q15_n, q15_v, q15_V⟩ := hQ15
  have N15 := Fr.app N7 Nq15
  have K16 : Keep h0 T15.heap [] := K11.trans Kq15 (allS (Or.inr B10) all0)
  have Bf17 : h0.size ≤ t15 := Nat.le_trans K11.1 q15_b
  refine own_tr st15 ?_
  show own_Go p e below T15 (mkF m 30 #[.val (.int p0), .val (.int p1), .val (.int p2), .val (.ref b1), .unset, .unset, .unset, .unset, .unset, .unset] [(.ref b10)]) _
  refine own_st (fun t k => XS.astore X15.here hx rfl (hb hby at_30) rfl rfl (l' := #[.val (.int p0), .val (.int p1), .val (.int p2), .val (.ref b1), .val (.ref b10), .unset, .unset, .unset, .unset, .unset]) rfl k) ?_
  show own_Go p e below T15 (mkF m 32 #[.val (.int p0), .val (.int p1), .val (.int p2), .val (.ref b1), .val (.ref b10), .unset, .unset, .unset, .unset, .unset] []) _
  have f18 := (Nat.le_trans f12 Kq15.1)
  obtain ⟨T19, h19, X19, e19, E19, A19, D19, -, st19⟩ := newO X15 hx hZ hown (hw _ (List.mem_of_getElem? (i := 30) rfl)) (hw _ (List.mem_of_getElem? (i := 31) rfl)) (hw _ (List.mem_of_getElem? (i := 32) rfl)) rfl (g := (mkF m 32 #[.val (.int p0), .val (.int p1), .val (.int p2), .val (.ref b1), .val (.ref b10), .unset, .unset, .unset, .unset, .unset] [])) rfl (hb hby at_32) (by decide) (by decide)
  obtain ⟨b19, g19⟩ : ∃ z, z = T15.heap.size := ⟨_, rfl⟩
  rw [← g19] at A19 D19 st19
  have G19 : n0 ≤ b19 := Nat.le_trans f18 (Nat.le_of_eq g19.symm)
  have B19 : h0.size ≤ b19 := Nat.le_trans K16.1 (Nat.le_of_eq g19.symm)
  have K20 : Keep h0 h19 [] := K16.ext E19
  have D19_methods : Fld Z h19 b19 "com/example/phlow/phlow/policy/PolicyClass" "methods" "Ljava/util/Map;" .null := D19 (Or.inr (hw _ (List.mem_of_getElem? (i := 64) rfl))) (ty := (.object "java/util/Map")) (by decide)
  have D19_attributes : Fld Z h19 b19 "com/example/phlow/phlow/policy/PolicyClass" "attributes" "Ljava/util/Map;" .null := D19 (Or.inr (hw _ (List.mem_of_getElem? (i := 66) rfl))) (ty := (.object "java/util/Map")) (by decide)
  have D19_name : Fld Z h19 b19 "com/example/phlow/phlow/policy/PolicyClass" "name" "Ljava/lang/String;" .null := D19 (Or.inr (hw _ (List.mem_of_getElem? (i := 68) rfl))) (ty := (.object "java/lang/String")) (by decide)
  have D19_foreign : Fld Z h19 b19 "com/example/phlow/phlow/policy/PolicyClass" "foreign" "Z" (.int (0 : Int32)) := D19 (Or.inl (hw _ (List.mem_of_getElem? (i := 75) rfl))) (ty := .boolean) (by decide)
  refine own_st st19 ?_
  show own_Go p e below T19 (mkF m 35 #[.val (.int p0), .val (.int p1), .val (.int p2), .val (.ref b1), .val (.ref b10), .unset, .unset, .unset, .unset, .unset] [(.ref b19)]) _
  refine own_st (fun t k => XS.dup X19.here hx rfl (hb hby at_35) rfl rfl k) ?_
  show own_Go p e below T19 (mkF m 36 #[.val (.int p0), .val (.int p1), .val (.int p2), .val (.ref b1), .val (.ref b10), .unset, .unset, .unset, .unset, .unset] [(.ref b19), (.ref b19)]) _
  refine own_st (fun t k => XS.aload X19.here hx rfl (hb hby at_36) rfl rfl k) ?_
  show own_Go p e below T19 (mkF m 38 #[.val (.int p0), .val (.int p1), .val (.int p2), .val (.ref b1), .val (.ref b10), .unset, .unset, .unset, .unset, .unset] [(.ref b10), (.ref b19), (.ref b19)]) _
  have f21 := (Nat.le_trans f18 E19.1)
  obtain ⟨_, _, ⟨T22, L22, k22, n22⟩, -, X22, ⟨Lc22, hQ22, l22, y22, z22⟩, st22⟩ := X19.specialBack hx (y := (⟨"com/example/phlow/phlow/policy/PolicyClass", "<init>", "(Ljava/lang/String;)V"⟩ : MethodName)) rfl hown (mvT hZ (hw _ (List.mem_of_getElem? (i := 33) rfl))) (mvT hZ (hw _ (List.mem_of_getElem? (i := 34) rfl))) (mvT hZ (hw _ (List.mem_of_getElem? (i := 35) rfl))) (by decide) (backOf (W := 1) (rmPC l Z a0 hw [] b19 b10 .null .null .null ((0 : Int32)) h19 n0 f21 A19 D19_methods D19_attributes D19_name D19_foreign G19) hZ (hw _ (List.mem_of_getElem? (i := 35) rfl)) (hw _ (List.mem_of_getElem? (i := 32) rfl)) (by decide) (by decide)) (g := (mkF m 38 #[.val (.int p0), .val (.int p1), .val (.int p2), .val (.ref b1), .val (.ref b10), .unset, .unset, .unset, .unset, .unset] [(.ref b10), (.ref b19), (.ref b19)])) rfl (by rw [hml]; rfl) (Steps.refl _) (a := b19) (argsL := [(.ref b10)]) (rest := [(.ref b19)]) (lenOf pd__Ljava_lang_String__V rfl) rfl (by show 2 * 0 + _ ≤ _; exact Nat.le_of_eq rfl) (hb hby at_38) (fun _ _ => ⟨rfl, e19, (by decide : 4 + 2 ≤ _), (by decide : 12 + 24 ≤ _)⟩)
  dsimp only [Pt.U, Pt.locs, Pt.cells, Pt.slots] at X22 l22 y22 z22 st22 hQ22
  subst l22 y22 z22
  obtain ⟨rfl, Nq22, Kq22, q22_0, q22_1⟩ := hQ22
  have N22 := Fr.app N15 Nq22
  have K23 : Keep h0 T22.heap [] := K20.trans Kq22 (allS (Or.inr B19) all0)
  refine own_tr st22 ?_
  show own_Go p e below T22 (mkF m 41 #[.val (.int p0), .val (.int p1), .val (.int p2), .val (.ref b1), .val (.ref b10), .unset, .unset, .unset, .unset, .unset] [(.ref b19)]) _
  refine own_st (fun t k => XS.astore X22.here hx rfl (hb hby at_41) rfl rfl (l' := #[.val (.int p0), .val (.int p1), .val (.int p2), .val (.ref b1), .val (.ref b10), .val (.ref b19), .unset, .unset, .unset, .unset]) rfl k) ?_
  show own_Go p e below T22 (mkF m 43 #[.val (.int p0), .val (.int p1), .val (.int p2), .val (.ref b1), .val (.ref b10), .val (.ref b19), .unset, .unset, .unset, .unset] []) _
  refine own_st (fun t k => XS.aload X22.here hx rfl (hb hby at_43) rfl rfl k) ?_
  show own_Go p e below T22 (mkF m 45 #[.val (.int p0), .val (.int p1), .val (.int p2), .val (.ref b1), .val (.ref b10), .val (.ref b19), .unset, .unset, .unset, .unset] [(.ref b19)]) _
  have f24 := (Nat.le_trans f21 Kq22.1)
  have f26 := (A19.keep Kq22)
  obtain ⟨cq25, kq25, qa25, qb25, qc25⟩ := isOf hZ rfl f26
  obtain ⟨_, _, ⟨T25, L25, k25, n25⟩, -, X25, ⟨Lc25, hQ25, l25, y25, z25⟩, st25⟩ := X22.virtualBack hx (y := (⟨"com/example/phlow/phlow/policy/PolicyClass", "isForeign", "()Z"⟩ : MethodName)) (z := (⟨"com/example/phlow/phlow/policy/PolicyClass", "isForeign", "()Z"⟩ : MethodName)) hown (mvT hZ (hw _ (List.mem_of_getElem? (i := 69) rfl))) (mvT hZ (hw _ (List.mem_of_getElem? (i := 70) rfl))) (notFace_of_selects (args := #[]) (mvT hZ (hw _ (List.mem_of_getElem? (i := 72) rfl)))) (mvT hZ (hw _ (List.mem_of_getElem? (i := 72) rfl))) (mvT hZ (hw _ (List.mem_of_getElem? (i := 71) rfl))) (by decide) (backOf (W := 0) (rmIF l Z a0 hw [] b19 ((0 : Int32)) T22.heap n0 f24 q22_1 (by decide)) hZ (hw _ (List.mem_of_getElem? (i := 73) rfl)) (hw _ (List.mem_of_getElem? (i := 32) rfl)) (by decide) (by decide)) qa25 qc25 (g := (mkF m 45 #[.val (.int p0), .val (.int p1), .val (.int p2), .val (.ref b1), .val (.ref b10), .val (.ref b19), .unset, .unset, .unset, .unset] [(.ref b19)])) rfl (by rw [hml]; rfl) (Steps.refl _) (argsL := []) (rest := []) (lenOf pd___Z rfl) rfl (by show 2 * 0 + _ ≤ _; exact Nat.le_of_eq rfl) (hb hby at_45) (fun _ _ => ⟨rfl, rfl, (by decide : 6 + 0 ≤ _), (by decide : 36 + 0 ≤ _)⟩)
  dsimp only [Pt.U, Pt.locs, Pt.cells, Pt.slots] at X25 l25 y25 z25 st25 hQ25
  subst l25 y25 z25
  obtain ⟨rfl, Nq25, eH25⟩ := hQ25
  have N25 := Fr.app N22 Nq25
  refine own_tr st25 ?_
  show own_Go p e below T25 (mkF m 48 #[.val (.int p0), .val (.int p1), .val (.int p2), .val (.ref b1), .val (.ref b10), .val (.ref b19), .unset, .unset, .unset, .unset] [(.int (0 : Int32))]) _
  refine own_st (fun t k => XS.ifNo X25.here hx rfl (hb hby at_48) rfl (by decide) k) ?_
  show own_Go p e below T25 (mkF m 51 #[.val (.int p0), .val (.int p1), .val (.int p2), .val (.ref b1), .val (.ref b10), .val (.ref b19), .unset, .unset, .unset, .unset] []) _
  refine own_st (fun t k => XS.iconst X25.here hx rfl (hb hby at_51) k) ?_
  show own_Go p e below T25 (mkF m 52 #[.val (.int p0), .val (.int p1), .val (.int p2), .val (.ref b1), .val (.ref b10), .val (.ref b19), .unset, .unset, .unset, .unset] [(.int (1 : Int32))]) _
  refine own_st (fun t k => XS.goto X25.here hx rfl (pc0 := 52) (pc' := 56) rfl (hb hby at_52) (by decide) (by decide) k) ?_
  show own_Go p e below T25 (mkF m 56 #[.val (.int p0), .val (.int p1), .val (.int p2), .val (.ref b1), .val (.ref b10), .val (.ref b19), .unset, .unset, .unset, .unset] [(.int (1 : Int32))]) _
  refine own_st (fun t k => XS.istore X25.here hx rfl (hb hby at_56) rfl (l' := #[.val (.int p0), .val (.int p1), .val (.int p2), .val (.ref b1), .val (.ref b10), .val (.ref b19), .val (.int (1 : Int32)), .unset, .unset, .unset]) rfl k) ?_
  show own_Go p e below T25 (mkF m 58 #[.val (.int p0), .val (.int p1), .val (.int p2), .val (.ref b1), .val (.ref b10), .val (.ref b19), .val (.int (1 : Int32)), .unset, .unset, .unset] []) _
  refine own_st (fun t k => XS.iloadN X25.here hx rfl (hb hby at_58) rfl k) ?_
  show own_Go p e below T25 (mkF m 59 #[.val (.int p0), .val (.int p1), .val (.int p2), .val (.ref b1), .val (.ref b10), .val (.ref b19), .val (.int (1 : Int32)), .unset, .unset, .unset] [(.int p2)]) _
  refine own_st (fun t k => XS.iconst X25.here hx rfl (hb hby at_59) k) ?_
  show own_Go p e below T25 (mkF m 60 #[.val (.int p0), .val (.int p1), .val (.int p2), .val (.ref b1), .val (.ref b10), .val (.ref b19), .val (.int (1 : Int32)), .unset, .unset, .unset] [(.int (3 : Int32)), (.int p2)]) _
  refine own_st (fun t k => XS.iand X25.here hx rfl (hb hby at_60) rfl k) ?_
  show own_Go p e below T25 (mkF m 61 #[.val (.int p0), .val (.int p1), .val (.int p2), .val (.ref b1), .val (.ref b10), .val (.ref b19), .val (.int (1 : Int32)), .unset, .unset, .unset] [(.int (p2 &&& (3 : Int32)))]) _
  rw [hpre]
  show own_Go p e below T25 (mkF m 61 #[.val (.int p0), .val (.int p1), .val (.int p2), .val (.ref b1), .val (.ref b10), .val (.ref b19), .val (.int (1 : Int32)), .unset, .unset, .unset] [(.int (1 : Int32))]) _
  refine own_st (fun t k => XS.istore X25.here hx rfl (hb hby at_61) rfl (l' := #[.val (.int p0), .val (.int p1), .val (.int p2), .val (.ref b1), .val (.ref b10), .val (.ref b19), .val (.int (1 : Int32)), .val (.int (1 : Int32)), .unset, .unset]) rfl k) ?_
  show own_Go p e below T25 (mkF m 63 #[.val (.int p0), .val (.int p1), .val (.int p2), .val (.ref b1), .val (.ref b10), .val (.ref b19), .val (.int (1 : Int32)), .val (.int (1 : Int32)), .unset, .unset] []) _
  refine own_st (fun t k => XS.iload X25.here hx rfl (hb hby at_63) rfl k) ?_
  show own_Go p e below T25 (mkF m 65 #[.val (.int p0), .val (.int p1), .val (.int p2), .val (.ref b1), .val (.ref b10), .val (.ref b19), .val (.int (1 : Int32)), .val (.int (1 : Int32)), .unset, .unset] [(.int (1 : Int32))]) _
  refine own_st (fun t k => XS.iconst X25.here hx rfl (hb hby at_65) k) ?_
  show own_Go p e below T25 (mkF m 66 #[.val (.int p0), .val (.int p1), .val (.int p2), .val (.ref b1), .val (.ref b10), .val (.ref b19), .val (.int (1 : Int32)), .val (.int (1 : Int32)), .unset, .unset] [(.int (1 : Int32)), (.int (1 : Int32))]) _
  refine own_st (fun t k => XS.icmpNo X25.here hx rfl (hb hby at_66) rfl (by decide) k) ?_
  show own_Go p e below T25 (mkF m 69 #[.val (.int p0), .val (.int p1), .val (.int p2), .val (.ref b1), .val (.ref b10), .val (.ref b19), .val (.int (1 : Int32)), .val (.int (1 : Int32)), .unset, .unset] []) _
  refine own_st (fun t k => XS.iload X25.here hx rfl (hb hby at_69) rfl k) ?_
  show own_Go p e below T25 (mkF m 71 #[.val (.int p0), .val (.int p1), .val (.int p2), .val (.ref b1), .val (.ref b10), .val (.ref b19), .val (.int (1 : Int32)), .val (.int (1 : Int32)), .unset, .unset] [(.int (1 : Int32))]) _
  refine own_st (fun t k => XS.aload X25.here hx rfl (hb hby at_71) rfl rfl k) ?_
  show own_Go p e below T25 (mkF m 73 #[.val (.int p0), .val (.int p1), .val (.int p2), .val (.ref b1), .val (.ref b10), .val (.ref b19), .val (.int (1 : Int32)), .val (.int (1 : Int32)), .unset, .unset] [(.ref b19), (.int (1 : Int32))]) _
  obtain ⟨cq27, kq27, qa27, qb27, qc27⟩ := isOf hZ eH25 f26
  obtain ⟨_, _, ⟨T27, L27, k27, n27⟩, -, X27, ⟨Lc27, hQ27, l27, y27, z27⟩, st27⟩ := X25.virtualBack hx (y := (⟨"com/example/phlow/phlow/policy/PolicyClass", "markForeign", "()Z"⟩ : MethodName)) (z := (⟨"com/example/phlow/phlow/policy/PolicyClass", "markForeign", "()Z"⟩ : MethodName)) hown (mvT hZ (hw _ (List.mem_of_getElem? (i := 76) rfl))) (mvT hZ (hw _ (List.mem_of_getElem? (i := 77) rfl))) (notFace_of_selects (args := #[]) (mvT hZ (hw _ (List.mem_of_getElem? (i := 79) rfl)))) (mvT hZ (hw _ (List.mem_of_getElem? (i := 79) rfl))) (mvT hZ (hw _ (List.mem_of_getElem? (i := 78) rfl))) (by decide) (backOf (W := 1) (rmMF0 l Z a0 hw [] b19 b10 T22.heap n0 f24 f26 q22_1 q22_0 G19) hZ (hw _ (List.mem_of_getElem? (i := 80) rfl)) (hw _ (List.mem_of_getElem? (i := 32) rfl)) (by decide) (by decide)) qa27 qc27 (g := (mkF m 73 #[.val (.int p0), .val (.int p1), .val (.int p2), .val (.ref b1), .val (.ref b10), .val (.ref b19), .val (.int (1 : Int32)), .val (.int (1 : Int32)), .unset, .unset] [(.ref b19), (.int (1 : Int32))])) rfl (by rw [hml]; rfl) (Steps.refl _) (argsL := []) (rest := [(.int (1 : Int32))]) (lenOf pd___Z rfl) rfl (by show 2 * 0 + _ ≤ _; exact Nat.le_of_eq rfl) (hb hby at_73) (fun _ _ => ⟨rfl, eH25, (by decide : 6 + 0 ≤ _), (by decide : 36 + 0 ≤ _)⟩)
  dsimp only [Pt.U, Pt.locs, Pt.cells, Pt.slots] at X27 l27 y27 z27 st27 hQ27
  subst l27 y27 z27
  obtain ⟨rfl, Nq27, Kq27, q27_0, q27_1⟩ := hQ27
  have N27 := Fr.app N25 Nq27
  have K28 : Keep h0 T27.heap [] := K23.trans Kq27 (allS (Or.inr B19) all0)
  refine own_tr st27 ?_
  show own_Go p e below T27 (mkF m 76 #[.val (.int p0), .val (.int p1), .val (.int p2), .val (.ref b1), .val (.ref b10), .val (.ref b19), .val (.int (1 : Int32)), .val (.int (1 : Int32)), .unset, .unset] [(.int (1 : Int32)), (.int (1 : Int32))]) _
  refine own_st (fun t k => XS.iand X27.here hx rfl (hb hby at_76) rfl k) ?_
  show own_Go p e below T27 (mkF m 77 #[.val (.int p0), .val (.int p1), .val (.int p2), .val (.ref b1), .val (.ref b10), .val (.ref b19), .val (.int (1 : Int32)), .val (.int (1 : Int32)), .unset, .unset] [(.int (1 : Int32))]) _
  refine own_st (fun t k => XS.istore X27.here hx rfl (hb hby at_77) rfl (l' := #[.val (.int p0), .val (.int p1), .val (.int p2), .val (.ref b1), .val (.ref b10), .val (.ref b19), .val (.int (1 : Int32)), .val (.int (1 : Int32)), .unset, .unset]) rfl k) ?_
  show own_Go p e below T27 (mkF m 79 #[.val (.int p0), .val (.int p1), .val (.int p2), .val (.ref b1), .val (.ref b10), .val (.ref b19), .val (.int (1 : Int32)), .val (.int (1 : Int32)), .unset, .unset] []) _
  refine own_st (fun t k => XS.iload X27.here hx rfl (hb hby at_79) rfl k) ?_
  show own_Go p e below T27 (mkF m 81 #[.val (.int p0), .val (.int p1), .val (.int p2), .val (.ref b1), .val (.ref b10), .val (.ref b19), .val (.int (1 : Int32)), .val (.int (1 : Int32)), .unset, .unset] [(.int (1 : Int32))]) _
  refine own_st (fun t k => XS.iconst X27.here hx rfl (hb hby at_81) k) ?_
  show own_Go p e below T27 (mkF m 82 #[.val (.int p0), .val (.int p1), .val (.int p2), .val (.ref b1), .val (.ref b10), .val (.ref b19), .val (.int (1 : Int32)), .val (.int (1 : Int32)), .unset, .unset] [(.int (2 : Int32)), (.int (1 : Int32))]) _
  refine own_st (fun t k => XS.icmpYes X27.here hx rfl (pc0 := 82) (pc' := 103) rfl (hb hby at_82) rfl (by decide) (by decide) (by decide) k) ?_
  show own_Go p e below T27 (mkF m 103 #[.val (.int p0), .val (.int p1), .val (.int p2), .val (.ref b1), .val (.ref b10), .val (.ref b19), .val (.int (1 : Int32)), .val (.int (1 : Int32)), .unset, .unset] []) _
  refine own_st (fun t k => XS.iload X27.here hx rfl (hb hby at_103) rfl k) ?_
  show own_Go p e below T27 (mkF m 105 #[.val (.int p0), .val (.int p1), .val (.int p2), .val (.ref b1), .val (.ref b10), .val (.ref b19), .val (.int (1 : Int32)), .val (.int (1 : Int32)), .unset, .unset] [(.int (1 : Int32))]) _
  refine own_st (fun t k => XS.iconst X27.here hx rfl (hb hby at_105) k) ?_
  show own_Go p e below T27 (mkF m 106 #[.val (.int p0), .val (.int p1), .val (.int p2), .val (.ref b1), .val (.ref b10), .val (.ref b19), .val (.int (1 : Int32)), .val (.int (1 : Int32)), .unset, .unset] [(.int (3 : Int32)), (.int (1 : Int32))]) _
  refine own_st (fun t k => XS.icmpYes X27.here hx rfl (pc0 := 106) (pc' := 127) rfl (hb hby at_106) rfl (by decide) (by decide) (by decide) k) ?_
  show own_Go p e below T27 (mkF m 127 #[.val (.int p0), .val (.int p1), .val (.int p2), .val (.ref b1), .val (.ref b10), .val (.ref b19), .val (.int (1 : Int32)), .val (.int (1 : Int32)), .unset, .unset] []) _
  refine own_st (fun t k => XS.aload X27.here hx rfl (hb hby at_127) rfl rfl k) ?_
  show own_Go p e below T27 (mkF m 129 #[.val (.int p0), .val (.int p1), .val (.int p2), .val (.ref b1), .val (.ref b10), .val (.ref b19), .val (.int (1 : Int32)), .val (.int (1 : Int32)), .unset, .unset] [(.ref b19)]) _
  have f29 := (Nat.le_trans f24 Kq27.1)
  have f31 := (f26.keep Kq27)
  obtain ⟨cq30, kq30, qa30, qb30, qc30⟩ := isOf hZ rfl f31
  obtain ⟨_, _, ⟨T30, L30, k30, n30⟩, -, X30, ⟨Lc30, hQ30, l30, y30, z30⟩, st30⟩ := X27.virtualBack hx (y := (⟨"com/example/phlow/phlow/policy/PolicyClass", "isForeign", "()Z"⟩ : MethodName)) (z := (⟨"com/example/phlow/phlow/policy/PolicyClass", "isForeign", "()Z"⟩ : MethodName)) hown (mvT hZ (hw _ (List.mem_of_getElem? (i := 69) rfl))) (mvT hZ (hw _ (List.mem_of_getElem? (i := 70) rfl))) (notFace_of_selects (args := #[]) (mvT hZ (hw _ (List.mem_of_getElem? (i := 72) rfl)))) (mvT hZ (hw _ (List.mem_of_getElem? (i := 72) rfl))) (mvT hZ (hw _ (List.mem_of_getElem? (i := 71) rfl))) (by decide) (backOf (W := 0) (rmIF l Z a0 hw [] b19 ((1 : Int32)) T27.heap n0 f29 q27_0 (by decide)) hZ (hw _ (List.mem_of_getElem? (i := 73) rfl)) (hw _ (List.mem_of_getElem? (i := 32) rfl)) (by decide) (by decide)) qa30 qc30 (g := (mkF m 129 #[.val (.int p0), .val (.int p1), .val (.int p2), .val (.ref b1), .val (.ref b10), .val (.ref b19), .val (.int (1 : Int32)), .val (.int (1 : Int32)), .unset, .unset] [(.ref b19)])) rfl (by rw [hml]; rfl) (Steps.refl _) (argsL := []) (rest := []) (lenOf pd___Z rfl) rfl (by show 2 * 0 + _ ≤ _; exact Nat.le_of_eq rfl) (hb hby at_129) (fun _ _ => ⟨rfl, rfl, (by decide : 6 + 0 ≤ _), (by decide : 36 + 0 ≤ _)⟩)
  dsimp only [Pt.U, Pt.locs, Pt.cells, Pt.slots] at X30 l30 y30 z30 st30 hQ30
  subst l30 y30 z30
  obtain ⟨rfl, Nq30, eH30⟩ := hQ30
  have N30 := Fr.app N27 Nq30
  refine own_tr st30 ?_
  show own_Go p e below T30 (mkF m 132 #[.val (.int p0), .val (.int p1), .val (.int p2), .val (.ref b1), .val (.ref b10), .val (.ref b19), .val (.int (1 : Int32)), .val (.int (1 : Int32)), .unset, .unset] [(.int (1 : Int32))]) _
  refine own_st (fun t k => XS.istore X30.here hx rfl (hb hby at_132) rfl (l' := #[.val (.int p0), .val (.int p1), .val (.int p2), .val (.ref b1), .val (.ref b10), .val (.ref b19), .val (.int (1 : Int32)), .val (.int (1 : Int32)), .val (.int (1 : Int32)), .unset]) rfl k) ?_
  show own_Go p e below T30 (mkF m 134 #[.val (.int p0), .val (.int p1), .val (.int p2), .val (.ref b1), .val (.ref b10), .val (.ref b19), .val (.int (1 : Int32)), .val (.int (1 : Int32)), .val (.int (1 : Int32)), .unset] []) _
  refine own_st (fun t k => XS.iload X30.here hx rfl (hb hby at_134) rfl k) ?_
  show own_Go p e below T30 (mkF m 136 #[.val (.int p0), .val (.int p1), .val (.int p2), .val (.ref b1), .val (.ref b10), .val (.ref b19), .val (.int (1 : Int32)), .val (.int (1 : Int32)), .val (.int (1 : Int32)), .unset] [(.int (1 : Int32))]) _
  refine own_st (fun t k => XS.iload X30.here hx rfl (hb hby at_136) rfl k) ?_
  show own_Go p e below T30 (mkF m 138 #[.val (.int p0), .val (.int p1), .val (.int p2), .val (.ref b1), .val (.ref b10), .val (.ref b19), .val (.int (1 : Int32)), .val (.int (1 : Int32)), .val (.int (1 : Int32)), .unset] [(.int (1 : Int32)), (.int (1 : Int32))]) _
  refine own_st (fun t k => XS.iload X30.here hx rfl (hb hby at_138) rfl k) ?_
  show own_Go p e below T30 (mkF m 140 #[.val (.int p0), .val (.int p1), .val (.int p2), .val (.ref b1), .val (.ref b10), .val (.ref b19), .val (.int (1 : Int32)), .val (.int (1 : Int32)), .val (.int (1 : Int32)), .unset] [(.int (1 : Int32)), (.int (1 : Int32)), (.int (1 : Int32))]) _
  refine own_st (fun t k => XS.iconst X30.here hx rfl (hb hby at_140) k) ?_
  show own_Go p e below T30 (mkF m 141 #[.val (.int p0), .val (.int p1), .val (.int p2), .val (.ref b1), .val (.ref b10), .val (.ref b19), .val (.int (1 : Int32)), .val (.int (1 : Int32)), .val (.int (1 : Int32)), .unset] [(.int (1 : Int32)), (.int (1 : Int32)), (.int (1 : Int32)), (.int (1 : Int32))]) _
  refine own_st (fun t k => XS.icmpNo X30.here hx rfl (hb hby at_141) rfl (by decide) k) ?_
  show own_Go p e below T30 (mkF m 144 #[.val (.int p0), .val (.int p1), .val (.int p2), .val (.ref b1), .val (.ref b10), .val (.ref b19), .val (.int (1 : Int32)), .val (.int (1 : Int32)), .val (.int (1 : Int32)), .unset] [(.int (1 : Int32)), (.int (1 : Int32))]) _
  refine own_st (fun t k => XS.iconst X30.here hx rfl (hb hby at_144) k) ?_
  show own_Go p e below T30 (mkF m 145 #[.val (.int p0), .val (.int p1), .val (.int p2), .val (.ref b1), .val (.ref b10), .val (.ref b19), .val (.int (1 : Int32)), .val (.int (1 : Int32)), .val (.int (1 : Int32)), .unset] [(.int (1 : Int32)), (.int (1 : Int32)), (.int (1 : Int32))]) _
  refine own_st (fun t k => XS.goto X30.here hx rfl (pc0 := 145) (pc' := 149) rfl (hb hby at_145) (by decide) (by decide) k) ?_
  show own_Go p e below T30 (mkF m 149 #[.val (.int p0), .val (.int p1), .val (.int p2), .val (.ref b1), .val (.ref b10), .val (.ref b19), .val (.int (1 : Int32)), .val (.int (1 : Int32)), .val (.int (1 : Int32)), .unset] [(.int (1 : Int32)), (.int (1 : Int32)), (.int (1 : Int32))]) _
  refine own_st (fun t k => XS.icmpNo X30.here hx rfl (hb hby at_149) rfl (by decide) k) ?_
  show own_Go p e below T30 (mkF m 152 #[.val (.int p0), .val (.int p1), .val (.int p2), .val (.ref b1), .val (.ref b10), .val (.ref b19), .val (.int (1 : Int32)), .val (.int (1 : Int32)), .val (.int (1 : Int32)), .unset] [(.int (1 : Int32))]) _
  refine own_st (fun t k => XS.iconst X30.here hx rfl (hb hby at_152) k) ?_
  show own_Go p e below T30 (mkF m 153 #[.val (.int p0), .val (.int p1), .val (.int p2), .val (.ref b1), .val (.ref b10), .val (.ref b19), .val (.int (1 : Int32)), .val (.int (1 : Int32)), .val (.int (1 : Int32)), .unset] [(.int (1 : Int32)), (.int (1 : Int32))]) _
  refine own_st (fun t k => XS.goto X30.here hx rfl (pc0 := 153) (pc' := 157) rfl (hb hby at_153) (by decide) (by decide) k) ?_
  show own_Go p e below T30 (mkF m 157 #[.val (.int p0), .val (.int p1), .val (.int p2), .val (.ref b1), .val (.ref b10), .val (.ref b19), .val (.int (1 : Int32)), .val (.int (1 : Int32)), .val (.int (1 : Int32)), .unset] [(.int (1 : Int32)), (.int (1 : Int32))]) _
  refine own_st (fun t k => XS.iand X30.here hx rfl (hb hby at_157) rfl k) ?_
  show own_Go p e below T30 (mkF m 158 #[.val (.int p0), .val (.int p1), .val (.int p2), .val (.ref b1), .val (.ref b10), .val (.ref b19), .val (.int (1 : Int32)), .val (.int (1 : Int32)), .val (.int (1 : Int32)), .unset] [(.int (1 : Int32))]) _
  refine own_st (fun t k => XS.istore X30.here hx rfl (hb hby at_158) rfl (l' := #[.val (.int p0), .val (.int p1), .val (.int p2), .val (.ref b1), .val (.ref b10), .val (.ref b19), .val (.int (1 : Int32)), .val (.int (1 : Int32)), .val (.int (1 : Int32)), .unset]) rfl k) ?_
  show own_Go p e below T30 (mkF m 160 #[.val (.int p0), .val (.int p1), .val (.int p2), .val (.ref b1), .val (.ref b10), .val (.ref b19), .val (.int (1 : Int32)), .val (.int (1 : Int32)), .val (.int (1 : Int32)), .unset] []) _
  refine own_st (fun t k => XS.aload X30.here hx rfl (hb hby at_160) rfl rfl k) ?_
  show own_Go p e below T30 (mkF m 162 #[.val (.int p0), .val (.int p1), .val (.int p2), .val (.ref b1), .val (.ref b10), .val (.ref b19), .val (.int (1 : Int32)), .val (.int (1 : Int32)), .val (.int (1 : Int32)), .unset] [(.ref b19)]) _
  obtain ⟨cq32, kq32, qa32, qb32, qc32⟩ := isOf hZ eH30 f31
  obtain ⟨_, _, ⟨T32, L32, k32, n32⟩, -, X32, ⟨Lc32, hQ32, l32, y32, z32⟩, st32⟩ := X30.virtualBack hx (y := (⟨"com/example/phlow/phlow/policy/PolicyClass", "markForeign", "()Z"⟩ : MethodName)) (z := (⟨"com/example/phlow/phlow/policy/PolicyClass", "markForeign", "()Z"⟩ : MethodName)) hown (mvT hZ (hw _ (List.mem_of_getElem? (i := 76) rfl))) (mvT hZ (hw _ (List.mem_of_getElem? (i := 77) rfl))) (notFace_of_selects (args := #[]) (mvT hZ (hw _ (List.mem_of_getElem? (i := 79) rfl)))) (mvT hZ (hw _ (List.mem_of_getElem? (i := 79) rfl))) (mvT hZ (hw _ (List.mem_of_getElem? (i := 78) rfl))) (by decide) (backOf (W := 0) (rmMF1 l Z a0 hw [] b19 b10 T27.heap n0 f29 f31 q27_0 q27_1 G19) hZ (hw _ (List.mem_of_getElem? (i := 80) rfl)) (hw _ (List.mem_of_getElem? (i := 32) rfl)) (by decide) (by decide)) qa32 qc32 (g := (mkF m 162 #[.val (.int p0), .val (.int p1), .val (.int p2), .val (.ref b1), .val (.ref b10), .val (.ref b19), .val (.int (1 : Int32)), .val (.int (1 : Int32)), .val (.int (1 : Int32)), .unset] [(.ref b19)])) rfl (by rw [hml]; rfl) (Steps.refl _) (argsL := []) (rest := []) (lenOf pd___Z rfl) rfl (by show 2 * 0 + _ ≤ _; exact Nat.le_of_eq rfl) (hb hby at_162) (fun _ _ => ⟨rfl, eH30, (by decide : 6 + 0 ≤ _), (by decide : 36 + 0 ≤ _)⟩)
  dsimp only [Pt.U, Pt.locs, Pt.cells, Pt.slots] at X32 l32 y32 z32 st32 hQ32
  subst l32 y32 z32
  obtain ⟨rfl, Nq32, Kq32, q32_0, q32_1⟩ := hQ32
  have N32 := Fr.app N30 Nq32
  have K33 : Keep h0 T32.heap [] := K28.trans Kq32 (allS (Or.inr B19) all0)
  refine own_tr st32 ?_
  show own_Go p e below T32 (mkF m 165 #[.val (.int p0), .val (.int p1), .val (.int p2), .val (.ref b1), .val (.ref b10), .val (.ref b19), .val (.int (1 : Int32)), .val (.int (1 : Int32)), .val (.int (1 : Int32)), .unset] [(.int (0 : Int32))]) _
  refine own_st (fun t k => XS.istore X32.here hx rfl (hb hby at_165) rfl (l' := #[.val (.int p0), .val (.int p1), .val (.int p2), .val (.ref b1), .val (.ref b10), .val (.ref b19), .val (.int (1 : Int32)), .val (.int (1 : Int32)), .val (.int (1 : Int32)), .val (.int (0 : Int32))]) rfl k) ?_
  show own_Go p e below T32 (mkF m 167 #[.val (.int p0), .val (.int p1), .val (.int p2), .val (.ref b1), .val (.ref b10), .val (.ref b19), .val (.int (1 : Int32)), .val (.int (1 : Int32)), .val (.int (1 : Int32)), .val (.int (0 : Int32))] []) _
  refine own_st (fun t k => XS.iload X32.here hx rfl (hb hby at_167) rfl k) ?_
  show own_Go p e below T32 (mkF m 169 #[.val (.int p0), .val (.int p1), .val (.int p2), .val (.ref b1), .val (.ref b10), .val (.ref b19), .val (.int (1 : Int32)), .val (.int (1 : Int32)), .val (.int (1 : Int32)), .val (.int (0 : Int32))] [(.int (1 : Int32))]) _
  refine own_st (fun t k => XS.iload X32.here hx rfl (hb hby at_169) rfl k) ?_
  show own_Go p e below T32 (mkF m 171 #[.val (.int p0), .val (.int p1), .val (.int p2), .val (.ref b1), .val (.ref b10), .val (.ref b19), .val (.int (1 : Int32)), .val (.int (1 : Int32)), .val (.int (1 : Int32)), .val (.int (0 : Int32))] [(.int (0 : Int32)), (.int (1 : Int32))]) _
  refine own_st (fun t k => XS.iload X32.here hx rfl (hb hby at_171) rfl k) ?_
  show own_Go p e below T32 (mkF m 173 #[.val (.int p0), .val (.int p1), .val (.int p2), .val (.ref b1), .val (.ref b10), .val (.ref b19), .val (.int (1 : Int32)), .val (.int (1 : Int32)), .val (.int (1 : Int32)), .val (.int (0 : Int32))] [(.int (1 : Int32)), (.int (0 : Int32)), (.int (1 : Int32))]) _
  refine own_st (fun t k => XS.ifYes X32.here hx rfl (pc0 := 173) (pc' := 180) rfl (hb hby at_173) rfl (by decide) (by decide) (by decide) k) ?_
  show own_Go p e below T32 (mkF m 180 #[.val (.int p0), .val (.int p1), .val (.int p2), .val (.ref b1), .val (.ref b10), .val (.ref b19), .val (.int (1 : Int32)), .val (.int (1 : Int32)), .val (.int (1 : Int32)), .val (.int (0 : Int32))] [(.int (0 : Int32)), (.int (1 : Int32))]) _
  refine own_st (fun t k => XS.iconst X32.here hx rfl (hb hby at_180) k) ?_
  show own_Go p e below T32 (mkF m 181 #[.val (.int p0), .val (.int p1), .val (.int p2), .val (.ref b1), .val (.ref b10), .val (.ref b19), .val (.int (1 : Int32)), .val (.int (1 : Int32)), .val (.int (1 : Int32)), .val (.int (0 : Int32))] [(.int (0 : Int32)), (.int (0 : Int32)), (.int (1 : Int32))]) _
  refine own_st (fun t k => XS.icmpNo X32.here hx rfl (hb hby at_181) rfl (by decide) k) ?_
  show own_Go p e below T32 (mkF m 184 #[.val (.int p0), .val (.int p1), .val (.int p2), .val (.ref b1), .val (.ref b10), .val (.ref b19), .val (.int (1 : Int32)), .val (.int (1 : Int32)), .val (.int (1 : Int32)), .val (.int (0 : Int32))] [(.int (1 : Int32))]) _
  refine own_st (fun t k => XS.iconst X32.here hx rfl (hb hby at_184) k) ?_
  show own_Go p e below T32 (mkF m 185 #[.val (.int p0), .val (.int p1), .val (.int p2), .val (.ref b1), .val (.ref b10), .val (.ref b19), .val (.int (1 : Int32)), .val (.int (1 : Int32)), .val (.int (1 : Int32)), .val (.int (0 : Int32))] [(.int (1 : Int32)), (.int (1 : Int32))]) _
  refine own_st (fun t k => XS.goto X32.here hx rfl (pc0 := 185) (pc' := 189) rfl (hb hby at_185) (by decide) (by decide) k) ?_
  show own_Go p e below T32 (mkF m 189 #[.val (.int p0), .val (.int p1), .val (.int p2), .val (.ref b1), .val (.ref b10), .val (.ref b19), .val (.int (1 : Int32)), .val (.int (1 : Int32)), .val (.int (1 : Int32)), .val (.int (0 : Int32))] [(.int (1 : Int32)), (.int (1 : Int32))]) _
  refine own_st (fun t k => XS.iand X32.here hx rfl (hb hby at_189) rfl k) ?_
  show own_Go p e below T32 (mkF m 190 #[.val (.int p0), .val (.int p1), .val (.int p2), .val (.ref b1), .val (.ref b10), .val (.ref b19), .val (.int (1 : Int32)), .val (.int (1 : Int32)), .val (.int (1 : Int32)), .val (.int (0 : Int32))] [(.int (1 : Int32))]) _
  refine own_st (fun t k => XS.istore X32.here hx rfl (hb hby at_190) rfl (l' := #[.val (.int p0), .val (.int p1), .val (.int p2), .val (.ref b1), .val (.ref b10), .val (.ref b19), .val (.int (1 : Int32)), .val (.int (1 : Int32)), .val (.int (1 : Int32)), .val (.int (0 : Int32))]) rfl k) ?_
  show own_Go p e below T32 (mkF m 192 #[.val (.int p0), .val (.int p1), .val (.int p2), .val (.ref b1), .val (.ref b10), .val (.ref b19), .val (.int (1 : Int32)), .val (.int (1 : Int32)), .val (.int (1 : Int32)), .val (.int (0 : Int32))] []) _
  refine own_st (fun t k => XS.iload X32.here hx rfl (hb hby at_192) rfl k) ?_
  show own_Go p e below T32 (mkF m 194 #[.val (.int p0), .val (.int p1), .val (.int p2), .val (.ref b1), .val (.ref b10), .val (.ref b19), .val (.int (1 : Int32)), .val (.int (1 : Int32)), .val (.int (1 : Int32)), .val (.int (0 : Int32))] [(.int (1 : Int32))]) _
  refine own_st (fun t k => XS.iload X32.here hx rfl (hb hby at_194) rfl k) ?_
  show own_Go p e below T32 (mkF m 196 #[.val (.int p0), .val (.int p1), .val (.int p2), .val (.ref b1), .val (.ref b10), .val (.ref b19), .val (.int (1 : Int32)), .val (.int (1 : Int32)), .val (.int (1 : Int32)), .val (.int (0 : Int32))] [(.int (0 : Int32)), (.int (1 : Int32))]) _
  refine own_st (fun t k => XS.iload X32.here hx rfl (hb hby at_196) rfl k) ?_
  show own_Go p e below T32 (mkF m 198 #[.val (.int p0), .val (.int p1), .val (.int p2), .val (.ref b1), .val (.ref b10), .val (.ref b19), .val (.int (1 : Int32)), .val (.int (1 : Int32)), .val (.int (1 : Int32)), .val (.int (0 : Int32))] [(.int (1 : Int32)), (.int (0 : Int32)), (.int (1 : Int32))]) _
  refine own_st (fun t k => XS.ifYes X32.here hx rfl (pc0 := 198) (pc' := 205) rfl (hb hby at_198) rfl (by decide) (by decide) (by decide) k) ?_
  show own_Go p e below T32 (mkF m 205 #[.val (.int p0), .val (.int p1), .val (.int p2), .val (.ref b1), .val (.ref b10), .val (.ref b19), .val (.int (1 : Int32)), .val (.int (1 : Int32)), .val (.int (1 : Int32)), .val (.int (0 : Int32))] [(.int (0 : Int32)), (.int (1 : Int32))]) _
  refine own_st (fun t k => XS.iconst X32.here hx rfl (hb hby at_205) k) ?_
  show own_Go p e below T32 (mkF m 206 #[.val (.int p0), .val (.int p1), .val (.int p2), .val (.ref b1), .val (.ref b10), .val (.ref b19), .val (.int (1 : Int32)), .val (.int (1 : Int32)), .val (.int (1 : Int32)), .val (.int (0 : Int32))] [(.int (0 : Int32)), (.int (0 : Int32)), (.int (1 : Int32))]) _
  refine own_st (fun t k => XS.icmpNo X32.here hx rfl (hb hby at_206) rfl (by decide) k) ?_
  show own_Go p e below T32 (mkF m 209 #[.val (.int p0), .val (.int p1), .val (.int p2), .val (.ref b1), .val (.ref b10), .val (.ref b19), .val (.int (1 : Int32)), .val (.int (1 : Int32)), .val (.int (1 : Int32)), .val (.int (0 : Int32))] [(.int (1 : Int32))]) _
  refine own_st (fun t k => XS.iconst X32.here hx rfl (hb hby at_209) k) ?_
  show own_Go p e below T32 (mkF m 210 #[.val (.int p0), .val (.int p1), .val (.int p2), .val (.ref b1), .val (.ref b10), .val (.ref b19), .val (.int (1 : Int32)), .val (.int (1 : Int32)), .val (.int (1 : Int32)), .val (.int (0 : Int32))] [(.int (1 : Int32)), (.int (1 : Int32))]) _
  refine own_st (fun t k => XS.goto X32.here hx rfl (pc0 := 210) (pc' := 214) rfl (hb hby at_210) (by decide) (by decide) k) ?_
  show own_Go p e below T32 (mkF m 214 #[.val (.int p0), .val (.int p1), .val (.int p2), .val (.ref b1), .val (.ref b10), .val (.ref b19), .val (.int (1 : Int32)), .val (.int (1 : Int32)), .val (.int (1 : Int32)), .val (.int (0 : Int32))] [(.int (1 : Int32)), (.int (1 : Int32))]) _
  refine own_st (fun t k => XS.iand X32.here hx rfl (hb hby at_214) rfl k) ?_
  show own_Go p e below T32 (mkF m 215 #[.val (.int p0), .val (.int p1), .val (.int p2), .val (.ref b1), .val (.ref b10), .val (.ref b19), .val (.int (1 : Int32)), .val (.int (1 : Int32)), .val (.int (1 : Int32)), .val (.int (0 : Int32))] [(.int (1 : Int32))]) _
  refine own_st (fun t k => XS.istore X32.here hx rfl (hb hby at_215) rfl (l' := #[.val (.int p0), .val (.int p1), .val (.int p2), .val (.ref b1), .val (.ref b10), .val (.ref b19), .val (.int (1 : Int32)), .val (.int (1 : Int32)), .val (.int (1 : Int32)), .val (.int (0 : Int32))]) rfl k) ?_
  show own_Go p e below T32 (mkF m 217 #[.val (.int p0), .val (.int p1), .val (.int p2), .val (.ref b1), .val (.ref b10), .val (.ref b19), .val (.int (1 : Int32)), .val (.int (1 : Int32)), .val (.int (1 : Int32)), .val (.int (0 : Int32))] []) _
  refine own_st (fun t k => XS.iload X32.here hx rfl (hb hby at_217) rfl k) ?_
  show own_Go p e below T32 (mkF m 219 #[.val (.int p0), .val (.int p1), .val (.int p2), .val (.ref b1), .val (.ref b10), .val (.ref b19), .val (.int (1 : Int32)), .val (.int (1 : Int32)), .val (.int (1 : Int32)), .val (.int (0 : Int32))] [(.int (1 : Int32))]) _
  refine own_st (fun t k => XS.aload X32.here hx rfl (hb hby at_219) rfl rfl k) ?_
  show own_Go p e below T32 (mkF m 221 #[.val (.int p0), .val (.int p1), .val (.int p2), .val (.ref b1), .val (.ref b10), .val (.ref b19), .val (.int (1 : Int32)), .val (.int (1 : Int32)), .val (.int (1 : Int32)), .val (.int (0 : Int32))] [(.ref b19), (.int (1 : Int32))]) _
  have f34 := (Nat.le_trans f29 Kq32.1)
  have f36 := (f31.keep Kq32)
  obtain ⟨cq35, kq35, qa35, qb35, qc35⟩ := isOf hZ rfl f36
  obtain ⟨_, _, ⟨T35, L35, k35, n35⟩, -, X35, ⟨Lc35, hQ35, l35, y35, z35⟩, st35⟩ := X32.virtualBack hx (y := (⟨"com/example/phlow/phlow/policy/PolicyClass", "isForeign", "()Z"⟩ : MethodName)) (z := (⟨"com/example/phlow/phlow/policy/PolicyClass", "isForeign", "()Z"⟩ : MethodName)) hown (mvT hZ (hw _ (List.mem_of_getElem? (i := 69) rfl))) (mvT hZ (hw _ (List.mem_of_getElem? (i := 70) rfl))) (notFace_of_selects (args := #[]) (mvT hZ (hw _ (List.mem_of_getElem? (i := 72) rfl)))) (mvT hZ (hw _ (List.mem_of_getElem? (i := 72) rfl))) (mvT hZ (hw _ (List.mem_of_getElem? (i := 71) rfl))) (by decide) (backOf (W := 1) (rmIF l Z a0 hw [] b19 ((1 : Int32)) T32.heap n0 f34 q32_0 (by decide)) hZ (hw _ (List.mem_of_getElem? (i := 73) rfl)) (hw _ (List.mem_of_getElem? (i := 32) rfl)) (by decide) (by decide)) qa35 qc35 (g := (mkF m 221 #[.val (.int p0), .val (.int p1), .val (.int p2), .val (.ref b1), .val (.ref b10), .val (.ref b19), .val (.int (1 : Int32)), .val (.int (1 : Int32)), .val (.int (1 : Int32)), .val (.int (0 : Int32))] [(.ref b19), (.int (1 : Int32))])) rfl (by rw [hml]; rfl) (Steps.refl _) (argsL := []) (rest := [(.int (1 : Int32))]) (lenOf pd___Z rfl) rfl (by show 2 * 0 + _ ≤ _; exact Nat.le_of_eq rfl) (hb hby at_221) (fun _ _ => ⟨rfl, rfl, (by decide : 6 + 0 ≤ _), (by decide : 36 + 0 ≤ _)⟩)
  dsimp only [Pt.U, Pt.locs, Pt.cells, Pt.slots] at X35 l35 y35 z35 st35 hQ35
  subst l35 y35 z35
  obtain ⟨rfl, Nq35, eH35⟩ := hQ35
  have N35 := Fr.app N32 Nq35
  refine own_tr st35 ?_
  show own_Go p e below T35 (mkF m 224 #[.val (.int p0), .val (.int p1), .val (.int p2), .val (.ref b1), .val (.ref b10), .val (.ref b19), .val (.int (1 : Int32)), .val (.int (1 : Int32)), .val (.int (1 : Int32)), .val (.int (0 : Int32))] [(.int (1 : Int32)), (.int (1 : Int32))]) _
  refine own_st (fun t k => XS.iand X35.here hx rfl (hb hby at_224) rfl k) ?_
  show own_Go p e below T35 (mkF m 225 #[.val (.int p0), .val (.int p1), .val (.int p2), .val (.ref b1), .val (.ref b10), .val (.ref b19), .val (.int (1 : Int32)), .val (.int (1 : Int32)), .val (.int (1 : Int32)), .val (.int (0 : Int32))] [(.int (1 : Int32))]) _
  refine own_st (fun t k => XS.istore X35.here hx rfl (hb hby at_225) rfl (l' := #[.val (.int p0), .val (.int p1), .val (.int p2), .val (.ref b1), .val (.ref b10), .val (.ref b19), .val (.int (1 : Int32)), .val (.int (1 : Int32)), .val (.int (1 : Int32)), .val (.int (0 : Int32))]) rfl k) ?_
  show own_Go p e below T35 (mkF m 227 #[.val (.int p0), .val (.int p1), .val (.int p2), .val (.ref b1), .val (.ref b10), .val (.ref b19), .val (.int (1 : Int32)), .val (.int (1 : Int32)), .val (.int (1 : Int32)), .val (.int (0 : Int32))] []) _
  refine own_st (fun t k => XS.iload X35.here hx rfl (hb hby at_227) rfl k) ?_
  show own_Go p e below T35 (mkF m 229 #[.val (.int p0), .val (.int p1), .val (.int p2), .val (.ref b1), .val (.ref b10), .val (.ref b19), .val (.int (1 : Int32)), .val (.int (1 : Int32)), .val (.int (1 : Int32)), .val (.int (0 : Int32))] [(.int (1 : Int32))]) _
  refine own_st (fun t k => XS.aload X35.here hx rfl (hb hby at_229) rfl rfl k) ?_
  show own_Go p e below T35 (mkF m 231 #[.val (.int p0), .val (.int p1), .val (.int p2), .val (.ref b1), .val (.ref b10), .val (.ref b19), .val (.int (1 : Int32)), .val (.int (1 : Int32)), .val (.int (1 : Int32)), .val (.int (0 : Int32))] [(.ref b19), (.int (1 : Int32))]) _
  obtain ⟨cq37, kq37, qa37, qb37, qc37⟩ := isOf hZ eH35 f36
  obtain ⟨_, _, ⟨T37, L37, k37, n37⟩, -, X37, ⟨Lc37, hQ37, l37, y37, z37⟩, st37⟩ := X35.virtualBack hx (y := (⟨"com/example/phlow/phlow/policy/PolicyClass", "markForeign", "()Z"⟩ : MethodName)) (z := (⟨"com/example/phlow/phlow/policy/PolicyClass", "markForeign", "()Z"⟩ : MethodName)) hown (mvT hZ (hw _ (List.mem_of_getElem? (i := 76) rfl))) (mvT hZ (hw _ (List.mem_of_getElem? (i := 77) rfl))) (notFace_of_selects (args := #[]) (mvT hZ (hw _ (List.mem_of_getElem? (i := 79) rfl)))) (mvT hZ (hw _ (List.mem_of_getElem? (i := 79) rfl))) (mvT hZ (hw _ (List.mem_of_getElem? (i := 78) rfl))) (by decide) (backOf (W := 1) (rmMF1 l Z a0 hw [] b19 b10 T32.heap n0 f34 f36 q32_0 q32_1 G19) hZ (hw _ (List.mem_of_getElem? (i := 80) rfl)) (hw _ (List.mem_of_getElem? (i := 32) rfl)) (by decide) (by decide)) qa37 qc37 (g := (mkF m 231 #[.val (.int p0), .val (.int p1), .val (.int p2), .val (.ref b1), .val (.ref b10), .val (.ref b19), .val (.int (1 : Int32)), .val (.int (1 : Int32)), .val (.int (1 : Int32)), .val (.int (0 : Int32))] [(.ref b19), (.int (1 : Int32))])) rfl (by rw [hml]; rfl) (Steps.refl _) (argsL := []) (rest := [(.int (1 : Int32))]) (lenOf pd___Z rfl) rfl (by show 2 * 0 + _ ≤ _; exact Nat.le_of_eq rfl) (hb hby at_231) (fun _ _ => ⟨rfl, eH35, (by decide : 6 + 0 ≤ _), (by decide : 36 + 0 ≤ _)⟩)
  dsimp only [Pt.U, Pt.locs, Pt.cells, Pt.slots] at X37 l37 y37 z37 st37 hQ37
  subst l37 y37 z37
  obtain ⟨rfl, Nq37, Kq37, q37_0, q37_1⟩ := hQ37
  have N37 := Fr.app N35 Nq37
  have K38 : Keep h0 T37.heap [] := K33.trans Kq37 (allS (Or.inr B19) all0)
  refine own_tr st37 ?_
  show own_Go p e below T37 (mkF m 234 #[.val (.int p0), .val (.int p1), .val (.int p2), .val (.ref b1), .val (.ref b10), .val (.ref b19), .val (.int (1 : Int32)), .val (.int (1 : Int32)), .val (.int (1 : Int32)), .val (.int (0 : Int32))] [(.int (0 : Int32)), (.int (1 : Int32))]) _
  refine own_st (fun t k => XS.ifNo X37.here hx rfl (hb hby at_234) rfl (by decide) k) ?_
  show own_Go p e below T37 (mkF m 237 #[.val (.int p0), .val (.int p1), .val (.int p2), .val (.ref b1), .val (.ref b10), .val (.ref b19), .val (.int (1 : Int32)), .val (.int (1 : Int32)), .val (.int (1 : Int32)), .val (.int (0 : Int32))] [(.int (1 : Int32))]) _
  refine own_st (fun t k => XS.iconst X37.here hx rfl (hb hby at_237) k) ?_
  show own_Go p e below T37 (mkF m 238 #[.val (.int p0), .val (.int p1), .val (.int p2), .val (.ref b1), .val (.ref b10), .val (.ref b19), .val (.int (1 : Int32)), .val (.int (1 : Int32)), .val (.int (1 : Int32)), .val (.int (0 : Int32))] [(.int (1 : Int32)), (.int (1 : Int32))]) _
  refine own_st (fun t k => XS.goto X37.here hx rfl (pc0 := 238) (pc' := 242) rfl (hb hby at_238) (by decide) (by decide) k) ?_
  show own_Go p e below T37 (mkF m 242 #[.val (.int p0), .val (.int p1), .val (.int p2), .val (.ref b1), .val (.ref b10), .val (.ref b19), .val (.int (1 : Int32)), .val (.int (1 : Int32)), .val (.int (1 : Int32)), .val (.int (0 : Int32))] [(.int (1 : Int32)), (.int (1 : Int32))]) _
  refine own_st (fun t k => XS.iand X37.here hx rfl (hb hby at_242) rfl k) ?_
  show own_Go p e below T37 (mkF m 243 #[.val (.int p0), .val (.int p1), .val (.int p2), .val (.ref b1), .val (.ref b10), .val (.ref b19), .val (.int (1 : Int32)), .val (.int (1 : Int32)), .val (.int (1 : Int32)), .val (.int (0 : Int32))] [(.int (1 : Int32))]) _
  refine own_st (fun t k => XS.istore X37.here hx rfl (hb hby at_243) rfl (l' := #[.val (.int p0), .val (.int p1), .val (.int p2), .val (.ref b1), .val (.ref b10), .val (.ref b19), .val (.int (1 : Int32)), .val (.int (1 : Int32)), .val (.int (1 : Int32)), .val (.int (0 : Int32))]) rfl k) ?_
  show own_Go p e below T37 (mkF m 245 #[.val (.int p0), .val (.int p1), .val (.int p2), .val (.ref b1), .val (.ref b10), .val (.ref b19), .val (.int (1 : Int32)), .val (.int (1 : Int32)), .val (.int (1 : Int32)), .val (.int (0 : Int32))] []) _
  refine own_st (fun t k => XS.iload X37.here hx rfl (hb hby at_245) rfl k) ?_
  show own_Go p e below T37 (mkF m 247 #[.val (.int p0), .val (.int p1), .val (.int p2), .val (.ref b1), .val (.ref b10), .val (.ref b19), .val (.int (1 : Int32)), .val (.int (1 : Int32)), .val (.int (1 : Int32)), .val (.int (0 : Int32))] [(.int (1 : Int32))]) _
  refine own_st (fun t k => XS.aload X37.here hx rfl (hb hby at_247) rfl rfl k) ?_
  show own_Go p e below T37 (mkF m 249 #[.val (.int p0), .val (.int p1), .val (.int p2), .val (.ref b1), .val (.ref b10), .val (.ref b19), .val (.int (1 : Int32)), .val (.int (1 : Int32)), .val (.int (1 : Int32)), .val (.int (0 : Int32))] [(.ref b19), (.int (1 : Int32))]) _
  have f39 := (Nat.le_trans f34 Kq37.1)
  have f41 := (f36.keep Kq37)
  obtain ⟨cq40, kq40, qa40, qb40, qc40⟩ := isOf hZ rfl f41
  obtain ⟨_, _, ⟨T40, L40, k40, n40⟩, -, X40, ⟨Lc40, hQ40, l40, y40, z40⟩, st40⟩ := X37.virtualBack hx (y := (⟨"com/example/phlow/phlow/policy/PolicyClass", "isForeign", "()Z"⟩ : MethodName)) (z := (⟨"com/example/phlow/phlow/policy/PolicyClass", "isForeign", "()Z"⟩ : MethodName)) hown (mvT hZ (hw _ (List.mem_of_getElem? (i := 69) rfl))) (mvT hZ (hw _ (List.mem_of_getElem? (i := 70) rfl))) (notFace_of_selects (args := #[]) (mvT hZ (hw _ (List.mem_of_getElem? (i := 72) rfl)))) (mvT hZ (hw _ (List.mem_of_getElem? (i := 72) rfl))) (mvT hZ (hw _ (List.mem_of_getElem? (i := 71) rfl))) (by decide) (backOf (W := 1) (rmIF l Z a0 hw [] b19 ((1 : Int32)) T37.heap n0 f39 q37_0 (by decide)) hZ (hw _ (List.mem_of_getElem? (i := 73) rfl)) (hw _ (List.mem_of_getElem? (i := 32) rfl)) (by decide) (by decide)) qa40 qc40 (g := (mkF m 249 #[.val (.int p0), .val (.int p1), .val (.int p2), .val (.ref b1), .val (.ref b10), .val (.ref b19), .val (.int (1 : Int32)), .val (.int (1 : Int32)), .val (.int (1 : Int32)), .val (.int (0 : Int32))] [(.ref b19), (.int (1 : Int32))])) rfl (by rw [hml]; rfl) (Steps.refl _) (argsL := []) (rest := [(.int (1 : Int32))]) (lenOf pd___Z rfl) rfl (by show 2 * 0 + _ ≤ _; exact Nat.le_of_eq rfl) (hb hby at_249) (fun _ _ => ⟨rfl, rfl, (by decide : 6 + 0 ≤ _), (by decide : 36 + 0 ≤ _)⟩)
  dsimp only [Pt.U, Pt.locs, Pt.cells, Pt.slots] at X40 l40 y40 z40 st40 hQ40
  subst l40 y40 z40
  obtain ⟨rfl, Nq40, eH40⟩ := hQ40
  have N40 := Fr.app N37 Nq40
  refine own_tr st40 ?_
  show own_Go p e below T40 (mkF m 252 #[.val (.int p0), .val (.int p1), .val (.int p2), .val (.ref b1), .val (.ref b10), .val (.ref b19), .val (.int (1 : Int32)), .val (.int (1 : Int32)), .val (.int (1 : Int32)), .val (.int (0 : Int32))] [(.int (1 : Int32)), (.int (1 : Int32))]) _
  refine own_st (fun t k => XS.iand X40.here hx rfl (hb hby at_252) rfl k) ?_
  show own_Go p e below T40 (mkF m 253 #[.val (.int p0), .val (.int p1), .val (.int p2), .val (.ref b1), .val (.ref b10), .val (.ref b19), .val (.int (1 : Int32)), .val (.int (1 : Int32)), .val (.int (1 : Int32)), .val (.int (0 : Int32))] [(.int (1 : Int32))]) _
  refine own_st (fun t k => XS.istore X40.here hx rfl (hb hby at_253) rfl (l' := #[.val (.int p0), .val (.int p1), .val (.int p2), .val (.ref b1), .val (.ref b10), .val (.ref b19), .val (.int (1 : Int32)), .val (.int (1 : Int32)), .val (.int (1 : Int32)), .val (.int (0 : Int32))]) rfl k) ?_
  show own_Go p e below T40 (mkF m 255 #[.val (.int p0), .val (.int p1), .val (.int p2), .val (.ref b1), .val (.ref b10), .val (.ref b19), .val (.int (1 : Int32)), .val (.int (1 : Int32)), .val (.int (1 : Int32)), .val (.int (0 : Int32))] []) _
  refine own_st (fun t k => XS.iload X40.here hx rfl (hb hby at_255) rfl k) ?_
  show own_Go p e below T40 (mkF m 257 #[.val (.int p0), .val (.int p1), .val (.int p2), .val (.ref b1), .val (.ref b10), .val (.ref b19), .val (.int (1 : Int32)), .val (.int (1 : Int32)), .val (.int (1 : Int32)), .val (.int (0 : Int32))] [(.int (1 : Int32))]) _
  refine own_st (fun t k => XS.aload X40.here hx rfl (hb hby at_257) rfl rfl k) ?_
  show own_Go p e below T40 (mkF m 259 #[.val (.int p0), .val (.int p1), .val (.int p2), .val (.ref b1), .val (.ref b10), .val (.ref b19), .val (.int (1 : Int32)), .val (.int (1 : Int32)), .val (.int (1 : Int32)), .val (.int (0 : Int32))] [(.ref b19), (.int (1 : Int32))]) _
  obtain ⟨cq42, kq42, qa42, qb42, qc42⟩ := isOf hZ eH40 f41
  obtain ⟨_, _, ⟨T42, L42, k42, n42⟩, -, X42, ⟨Lc42, hQ42, l42, y42, z42⟩, st42⟩ := X40.virtualBack hx (y := (⟨"com/example/phlow/phlow/policy/PolicyClass", "name", "()Ljava/lang/String;"⟩ : MethodName)) (z := (⟨"com/example/phlow/phlow/policy/PolicyClass", "name", "()Ljava/lang/String;"⟩ : MethodName)) hown (mvT hZ (hw _ (List.mem_of_getElem? (i := 81) rfl))) (mvT hZ (hw _ (List.mem_of_getElem? (i := 82) rfl))) (notFace_of_selects (args := #[]) (mvT hZ (hw _ (List.mem_of_getElem? (i := 84) rfl)))) (mvT hZ (hw _ (List.mem_of_getElem? (i := 84) rfl))) (mvT hZ (hw _ (List.mem_of_getElem? (i := 83) rfl))) (by decide) (backOf (W := 1) (rmNM l Z a0 hw [] b19 b10 T37.heap n0 f39 q37_1) hZ (hw _ (List.mem_of_getElem? (i := 85) rfl)) (hw _ (List.mem_of_getElem? (i := 32) rfl)) (by decide) (by decide)) qa42 qc42 (g := (mkF m 259 #[.val (.int p0), .val (.int p1), .val (.int p2), .val (.ref b1), .val (.ref b10), .val (.ref b19), .val (.int (1 : Int32)), .val (.int (1 : Int32)), .val (.int (1 : Int32)), .val (.int (0 : Int32))] [(.ref b19), (.int (1 : Int32))])) rfl (by rw [hml]; rfl) (Steps.refl _) (argsL := []) (rest := [(.int (1 : Int32))]) (lenOf pd___Ljava_lang_String_ rfl) rfl (by show 2 * 0 + _ ≤ _; exact Nat.le_of_eq rfl) (hb hby at_259) (fun _ _ => ⟨rfl, eH40, (by decide : 6 + 0 ≤ _), (by decide : 36 + 0 ≤ _)⟩)
  dsimp only [Pt.U, Pt.locs, Pt.cells, Pt.slots] at X42 l42 y42 z42 st42 hQ42
  subst l42 y42 z42
  obtain ⟨rfl, Nq42, eH42⟩ := hQ42
  have N42 := Fr.app N40 Nq42
  refine own_tr st42 ?_
  show own_Go p e below T42 (mkF m 262 #[.val (.int p0), .val (.int p1), .val (.int p2), .val (.ref b1), .val (.ref b10), .val (.ref b19), .val (.int (1 : Int32)), .val (.int (1 : Int32)), .val (.int (1 : Int32)), .val (.int (0 : Int32))] [(.ref b10), (.int (1 : Int32))]) _
  refine own_st (fun t k => XS.aload X42.here hx rfl (hb hby at_262) rfl rfl k) ?_
  show own_Go p e below T42 (mkF m 264 #[.val (.int p0), .val (.int p1), .val (.int p2), .val (.ref b1), .val (.ref b10), .val (.ref b19), .val (.int (1 : Int32)), .val (.int (1 : Int32)), .val (.int (1 : Int32)), .val (.int (0 : Int32))] [(.ref b10), (.ref b10), (.int (1 : Int32))]) _
  refine own_st (fun t k => Jvm.RoadKit.acmp (g := (mkF m 264 #[.val (.int p0), .val (.int p1), .val (.int p2), .val (.ref b1), .val (.ref b10), .val (.ref b19), .val (.int (1 : Int32)), .val (.int (1 : Int32)), .val (.int (1 : Int32)), .val (.int (0 : Int32))] [(.ref b10), (.ref b10), (.int (1 : Int32))])) X42 hx rfl rfl rfl (pc0 := 264) (pc' := 267) (same := true) rfl (hb hby at_264) rfl (decide_eq_true rfl) (by decide) (by decide) k) ?_
  show own_Go p e below T42 (mkF m 267 #[.val (.int p0), .val (.int p1), .val (.int p2), .val (.ref b1), .val (.ref b10), .val (.ref b19), .val (.int (1 : Int32)), .val (.int (1 : Int32)), .val (.int (1 : Int32)), .val (.int (0 : Int32))] [(.int (1 : Int32))]) _
  refine own_st (fun t k => XS.iconst X42.here hx rfl (hb hby at_267) k) ?_
  show own_Go p e below T42 (mkF m 268 #[.val (.int p0), .val (.int p1), .val (.int p2), .val (.ref b1), .val (.ref b10), .val (.ref b19), .val (.int (1 : Int32)), .val (.int (1 : Int32)), .val (.int (1 : Int32)), .val (.int (0 : Int32))] [(.int (1 : Int32)), (.int (1 : Int32))]) _
  refine own_st (fun t k => XS.goto X42.here hx rfl (pc0 := 268) (pc' := 272) rfl (hb hby at_268) (by decide) (by decide) k) ?_
  show own_Go p e below T42 (mkF m 272 #[.val (.int p0), .val (.int p1), .val (.int p2), .val (.ref b1), .val (.ref b10), .val (.ref b19), .val (.int (1 : Int32)), .val (.int (1 : Int32)), .val (.int (1 : Int32)), .val (.int (0 : Int32))] [(.int (1 : Int32)), (.int (1 : Int32))]) _
  refine own_st (fun t k => XS.iand X42.here hx rfl (hb hby at_272) rfl k) ?_
  show own_Go p e below T42 (mkF m 273 #[.val (.int p0), .val (.int p1), .val (.int p2), .val (.ref b1), .val (.ref b10), .val (.ref b19), .val (.int (1 : Int32)), .val (.int (1 : Int32)), .val (.int (1 : Int32)), .val (.int (0 : Int32))] [(.int (1 : Int32))]) _
  refine own_st (fun t k => XS.istore X42.here hx rfl (hb hby at_273) rfl (l' := #[.val (.int p0), .val (.int p1), .val (.int p2), .val (.ref b1), .val (.ref b10), .val (.ref b19), .val (.int (1 : Int32)), .val (.int (1 : Int32)), .val (.int (1 : Int32)), .val (.int (0 : Int32))]) rfl k) ?_
  show own_Go p e below T42 (mkF m 275 #[.val (.int p0), .val (.int p1), .val (.int p2), .val (.ref b1), .val (.ref b10), .val (.ref b19), .val (.int (1 : Int32)), .val (.int (1 : Int32)), .val (.int (1 : Int32)), .val (.int (0 : Int32))] []) _
  refine own_st (fun t k => XS.iload X42.here hx rfl (hb hby at_275) rfl k) ?_
  show own_Go p e below T42 (mkF m 277 #[.val (.int p0), .val (.int p1), .val (.int p2), .val (.ref b1), .val (.ref b10), .val (.ref b19), .val (.int (1 : Int32)), .val (.int (1 : Int32)), .val (.int (1 : Int32)), .val (.int (0 : Int32))] [(.int (1 : Int32))]) _
  obtain ⟨fs, hr, hrun, hended, hW, hsame⟩ := X42.leave (v := some (.int (1 : Int32))) (fun h => by rw [Bd.returns] at h; cases h)
  refine own_fin (retN X42 hx (t := .boolean) Bd.returns (by simp) (hb hby at_277) hr) ⟨hrun, hended, _, _, rfl, ?_, ⟨_, rfl⟩, hW, hsame.mono (by decide) (by decide)⟩
  show Q_rmLaw1 Z p0 p1 p2 zc h0 n0 _ T42.heap _
  rw [eH42]
  exact ⟨rfl, N42, K38⟩
theorem ef_rmLaw2 (m : MethodId) (x0 : Int32) (x1 : Int32) (x2 : Int32) : entryFrame m #[(.int x0), (.int x1), (.int x2)] maxLocals = mkF m 0 #[.val (.int x0), .val (.int x1), .val (.int x2), .unset, .unset, .unset, .unset, .unset, .unset, .unset] [] := by first | (simp [entryFrame, mkF, argsToLocals, Value.category, maxLocals]; done) | rfl
def Q_rmLaw2 (Z : State) (p0 : Int32) (p1 : Int32) (p2 : Int32) (zc : Int32) (h0 : Heap) (n0 : Nat) (v : Option Value) (h : Heap) (L : List Loc) : Prop := v = some (.int (1 : Int32)) ∧ Fr n0 L ∧ Keep h0 h []
set_option maxRecDepth 65536 in
set_option maxHeartbeats 40000000 in
theorem rmLaw2 (l : Launch) (Z : State) (a0 : Array Value) (hw : ∀ d ∈ tables_1, d.before a0 Z = true) (ws : List Jvm.Cond) (p0 : Int32) (p1 : Int32) (p2 : Int32) (zc : Int32) (h0 : Heap) (n0 : Nat) (Z0 : n0 ≤ h0.size) (pS_COMPACT_STRINGS : Sta Z Z.heap "java/lang/String" "COMPACT_STRINGS" "Z" (.int zc)) (pP5 : ¬ (zc = (0 : Int32))) (pO : Old Z n0 h0) (hpre : p2 &&& (3 : Int32) = (2 : Int32)) :
    MetFree l x (head1 (Jvm.Cond.code x code maxLocals ret :: ws) room_1) (fun a U => a = #[(.int p0), (.int p1), (.int p2)] ∧ Z.Warmed39 U.vm ∧ U.heap = h0) (fun _ _ _ _ _ => True) (fun _ U o U' => ∃ v L, o = .returned v ∧ Q_rmLaw2 Z p0 p1 p2 zc h0 n0 v U'.heap L ∧ FrameEnd U o U' L 24 192) := by
  refine MetFree.of_bodySF (plainFor_of_name pn_0) hisR ?_
  intro p e s m args below meth c s₁ Bd hml0 hP hK
  obtain ⟨rfl, hZ, hh⟩ := hP
  have hx := Bd.exec
  have hby := Bd.bytes
  have hml : c.maxLocals = 10 := hml0
  have hown : s.vm.findClass "com/example/phlow/phlow/policy/PolicyClassMarkForeignPinLaw" = some m.cls := findClass_of_methodNamed Bd.named
  have hnm := (name_of_methodNamed Bd.named Bd.method).1
  have X0 : Stand p l e room_1 s m #[(.int p0), (.int p1), (.int p2)] below meth c s₁ [] 0 0 := Stand.of_body Bd
  have e0 : s₁.heap = h0 := by rw [← hh, Bd.state]; rfl
  have N0 := Fr.nil n0
  refine own_enter (ef_rmLaw2 m p0 p1 p2) ?_
  have hws : ∀ d ∈ StrChars.Road.words, d.before a0 Z = true := fun d hd => hw d ((by decide +kernel : ∀ d ∈ StrChars.Road.words, d ∈ tables_1) d hd)
  refine own_st (fun t k => XS.iconst X0.here hx rfl (hb hby at_0) k) ?_
  show own_Go p e below s₁ (mkF m 1 #[.val (.int p0), .val (.int p1), .val (.int p2), .unset, .unset, .unset, .unset, .unset, .unset, .unset] [(.int (2 : Int32))]) _
  obtain ⟨T1, h1, k1, X1, e1, E1, A1, st1⟩ := newP X0 hx hZ (hw _ (List.mem_of_getElem? (i := 0) rfl)) e0 (g := (mkF m 1 #[.val (.int p0), .val (.int p1), .val (.int p2), .unset, .unset, .unset, .unset, .unset, .unset, .unset] [(.int (2 : Int32))])) rfl (hb hby at_1) rfl (by decide) (cap := 2) (by decide) (by decide) (by decide) (by decide)
  obtain ⟨b1, g1⟩ : ∃ z, z = h0.size := ⟨_, rfl⟩
  rw [← g1] at A1 st1
  have G1 : n0 ≤ b1 := Nat.le_trans Z0 (Nat.le_of_eq g1.symm)
  have B1 : h0.size ≤ b1 := Nat.le_trans (Keep.refl h0 []).1 (Nat.le_of_eq g1.symm)
  have K2 : Keep h0 h1 [] := (Keep.refl h0 []).ext E1
  have V1 : Arv Z h1 b1 k1 .char (2 : Int32) [(.int (0 : Int32)), (.int (0 : Int32))] (.int (0 : Int32)) := (Arv.new A1 (by decide)).pad (pad_rep [] (.int (0 : Int32)) 2)
  refine own_st st1 ?_
  show own_Go p e below T1 (mkF m 3 #[.val (.int p0), .val (.int p1), .val (.int p2), .unset, .unset, .unset, .unset, .unset, .unset, .unset] [(.ref b1)]) _
  refine own_st (fun t k => XS.astoreN X1.here hx rfl (hb hby at_3) rfl rfl (l' := #[.val (.int p0), .val (.int p1), .val (.int p2), .val (.ref b1), .unset, .unset, .unset, .unset, .unset, .unset]) rfl k) ?_
  show own_Go p e below T1 (mkF m 4 #[.val (.int p0), .val (.int p1), .val (.int p2), .val (.ref b1), .unset, .unset, .unset, .unset, .unset, .unset] []) _
  refine own_st (fun t k => XS.aloadN X1.here hx rfl (hb hby at_4) rfl rfl k) ?_
  show own_Go p e below T1 (mkF m 5 #[.val (.int p0), .val (.int p1), .val (.int p2), .val (.ref b1), .unset, .unset, .unset, .unset, .unset, .unset] [(.ref b1)]) _
  refine own_st (fun t k => XS.iconst X1.here hx rfl (hb hby at_5) k) ?_
  show own_Go p e below T1 (mkF m 6 #[.val (.int p0), .val (.int p1), .val (.int p2), .val (.ref b1), .unset, .unset, .unset, .unset, .unset, .unset] [(.int (0 : Int32)), (.ref b1)]) _
  refine own_st (fun t k => XS.iloadN X1.here hx rfl (hb hby at_6) rfl k) ?_
  show own_Go p e below T1 (mkF m 7 #[.val (.int p0), .val (.int p1), .val (.int p2), .val (.ref b1), .unset, .unset, .unset, .unset, .unset, .unset] [(.int p0), (.int (0 : Int32)), (.ref b1)]) _
  refine own_st (fun t k => XS.sipush X1.here hx rfl (hb hby at_7) k) ?_
  show own_Go p e below T1 (mkF m 10 #[.val (.int p0), .val (.int p1), .val (.int p2), .val (.ref b1), .unset, .unset, .unset, .unset, .unset, .unset] [(.int (255 : Int32)), (.int p0), (.int (0 : Int32)), (.ref b1)]) _
  refine own_st (fun t k => XS.iand X1.here hx rfl (hb hby at_10) rfl k) ?_
  show own_Go p e below T1 (mkF m 11 #[.val (.int p0), .val (.int p1), .val (.int p2), .val (.ref b1), .unset, .unset, .unset, .unset, .unset, .unset] [(.int (p0 &&& (255 : Int32))), (.int (0 : Int32)), (.ref b1)]) _
  refine own_st (fun t k => XS.i2c X1.here hx rfl (hb hby at_11) rfl k) ?_
  show own_Go p e below T1 (mkF m 12 #[.val (.int p0), .val (.int p1), .val (.int p2), .val (.ref b1), .unset, .unset, .unset, .unset, .unset, .unset] [(.int ((p0 &&& (255 : Int32)).toUInt32.toUInt16.toUInt32.toInt32)), (.int (0 : Int32)), (.ref b1)]) _
  obtain ⟨cl3, Ar3, q3, Sz3, Nn3, Hh3, Gg3⟩ := V1
  have hin3 : ¬ ((0 : Int32) < 0 ∨ cl3.slots.size ≤ ((0 : Int32)).toNatClampNeg) := inb_of Sz3 ⟨by decide, by decide⟩
  obtain ⟨T4, h4, X4, e4, W4, st4⟩ := stC X1 hx hZ e1 Ar3 (j := (0 : Int32)) hin3 (g := (mkF m 12 #[.val (.int p0), .val (.int p1), .val (.int p2), .val (.ref b1), .unset, .unset, .unset, .unset, .unset, .unset] [(.int ((p0 &&& (255 : Int32)).toUInt32.toUInt16.toUInt32.toInt32)), (.int (0 : Int32)), (.ref b1)])) rfl rfl (hb hby at_12)
  have V4 : Arv Z h4 b1 k1 .char (2 : Int32) [(.int (nar .char ((p0 &&& (255 : Int32)).toUInt32.toUInt16.toUInt32.toInt32))), (.int (0 : Int32))] (.int (0 : Int32)) := Arv.set Ar3 q3 Sz3 Nn3 Hh3 Gg3 (fits_nar_char _) W4 0 rfl (Nat.le_of_ble_eq_true rfl)
  have K5 : Keep h0 h4 [] := K2.wr W4 (Or.inr B1)
  have N4 := Fr.snoc X4 N0 G1
  refine own_st st4 ?_
  show own_Go p e below T4 (mkF m 13 #[.val (.int p0), .val (.int p1), .val (.int p2), .val (.ref b1), .unset, .unset, .unset, .unset, .unset, .unset] []) _
  refine own_st (fun t k => XS.aloadN X4.here hx rfl (hb hby at_13) rfl rfl k) ?_
  show own_Go p e below T4 (mkF m 14 #[.val (.int p0), .val (.int p1), .val (.int p2), .val (.ref b1), .unset, .unset, .unset, .unset, .unset, .unset] [(.ref b1)]) _
  refine own_st (fun t k => XS.iconst X4.here hx rfl (hb hby at_14) k) ?_
  show own_Go p e below T4 (mkF m 15 #[.val (.int p0), .val (.int p1), .val (.int p2), .val (.ref b1), .unset, .unset, .unset, .unset, .unset, .unset] [(.int (1 : Int32)), (.ref b1)]) _
  refine own_st (fun t k => XS.iloadN X4.here hx rfl (hb hby at_15) rfl k) ?_
  show own_Go p e below T4 (mkF m 16 #[.val (.int p0), .val (.int p1), .val (.int p2), .val (.ref b1), .unset, .unset, .unset, .unset, .unset, .unset] [(.int p1), (.int (1 : Int32)), (.ref b1)]) _
  refine own_st (fun t k => XS.sipush X4.here hx rfl (hb hby at_16) k) ?_
  show own_Go p e below T4 (mkF m 19 #[.val (.int p0), .val (.int p1), .val (.int p2), .val (.ref b1), .unset, .unset, .unset, .unset, .unset, .unset] [(.int (255 : Int32)), (.int p1), (.int (1 : Int32)), (.ref b1)]) _
  refine own_st (fun t k => XS.iand X4.here hx rfl (hb hby at_19) rfl k) ?_
  show own_Go p e below T4 (mkF m 20 #[.val (.int p0), .val (.int p1), .val (.int p2), .val (.ref b1), .unset, .unset, .unset, .unset, .unset, .unset] [(.int (p1 &&& (255 : Int32))), (.int (1 : Int32)), (.ref b1)]) _
  refine own_st (fun t k => XS.i2c X4.here hx rfl (hb hby at_20) rfl k) ?_
  show own_Go p e below T4 (mkF m 21 #[.val (.int p0), .val (.int p1), .val (.int p2), .val (.ref b1), .unset, .unset, .unset, .unset, .unset, .unset] [(.int ((p1 &&& (255 : Int32)).toUInt32.toUInt16.toUInt32.toInt32)), (.int (1 : Int32)), (.ref b1)]) _
  obtain ⟨cl6, Ar6, q6, Sz6, Nn6, Hh6, Gg6⟩ := V4
  have hin6 : ¬ ((1 : Int32) < 0 ∨ cl6.slots.size ≤ ((1 : Int32)).toNatClampNeg) := inb_of Sz6 ⟨by decide, by decide⟩
  obtain ⟨T7, h7, X7, e7, W7, st7⟩ := stC X4 hx hZ e4 Ar6 (j := (1 : Int32)) hin6 (g := (mkF m 21 #[.val (.int p0), .val (.int p1), .val (.int p2), .val (.ref b1), .unset, .unset, .unset, .unset, .unset, .unset] [(.int ((p1 &&& (255 : Int32)).toUInt32.toUInt16.toUInt32.toInt32)), (.int (1 : Int32)), (.ref b1)])) rfl rfl (hb hby at_21)
  have V7 : Arv Z h7 b1 k1 .char (2 : Int32) [(.int (nar .char ((p0 &&& (255 : Int32)).toUInt32.toUInt16.toUInt32.toInt32))), (.int (nar .char ((p1 &&& (255 : Int32)).toUInt32.toUInt16.toUInt32.toInt32)))] (.int (0 : Int32)) := Arv.set Ar6 q6 Sz6 Nn6 Hh6 Gg6 (fits_nar_char _) W7 1 rfl (Nat.le_of_ble_eq_true rfl)
  have K8 : Keep h0 h7 [] := K5.wr W7 (Or.inr B1)
  have N7 := Fr.snoc X7 N4 G1
  refine own_st st7 ?_
  show own_Go p e below T7 (mkF m 22 #[.val (.int p0), .val (.int p1), .val (.int p2), .val (.ref b1), .unset, .unset, .unset, .unset, .unset, .unset] []) _
  have f9 := (Nat.le_trans (Nat.le_trans (Nat.le_trans Z0 E1.1) (Keep.of_wr W4).1) (Keep.of_wr W7).1)
  obtain ⟨T10, h10, X10, e10, E10, A10, D10, -, st10⟩ := newO X7 hx hZ hown (hw _ (List.mem_of_getElem? (i := 1) rfl)) (hw _ (List.mem_of_getElem? (i := 2) rfl)) (hw _ (List.mem_of_getElem? (i := 3) rfl)) e7 (g := (mkF m 22 #[.val (.int p0), .val (.int p1), .val (.int p2), .val (.ref b1), .unset, .unset, .unset, .unset, .unset, .unset] [])) rfl (hb hby at_22) (by decide) (by decide)
  obtain ⟨b10, g10⟩ : ∃ z, z = h7.size := ⟨_, rfl⟩
  rw [← g10] at A10 D10 st10
  have G10 : n0 ≤ b10 := Nat.le_trans f9 (Nat.le_of_eq g10.symm)
  have B10 : h0.size ≤ b10 := Nat.le_trans K8.1 (Nat.le_of_eq g10.symm)
  have K11 : Keep h0 h10 [] := K8.ext E10
  have D10_coder : Fld Z h10 b10 "java/lang/String" "coder" "B" (.int (0 : Int32)) := D10 (Or.inr (hw _ (List.mem_of_getElem? (i := 27) rfl))) (ty := .byte) (by decide)
  have D10_value : Fld Z h10 b10 "java/lang/String" "value" "[B" .null := D10 (Or.inr (hw _ (List.mem_of_getElem? (i := 29) rfl))) (ty := (.array .byte)) (by decide)
  refine own_st st10 ?_
  show own_Go p e below T10 (mkF m 25 #[.val (.int p0), .val (.int p1), .val (.int p2), .val (.ref b1), .unset, .unset, .unset, .unset, .unset, .unset] [(.ref b10)]) _
  refine own_st (fun t k => XS.dup X10.here hx rfl (hb hby at_25) rfl rfl k) ?_
  show own_Go p e below T10 (mkF m 26 #[.val (.int p0), .val (.int p1), .val (.int p2), .val (.ref b1), .unset, .unset, .unset, .unset, .unset, .unset] [(.ref b10), (.ref b10)]) _
  refine own_st (fun t k => XS.aloadN X10.here hx rfl (hb hby at_26) rfl rfl k) ?_
  show own_Go p e below T10 (mkF m 27 #[.val (.int p0), .val (.int p1), .val (.int p2), .val (.ref b1), .unset, .unset, .unset, .unset, .unset, .unset] [(.ref b1), (.ref b10), (.ref b10)]) _
  have hp : ∀ c ∈ ([nar .char ((p0 &&& (255 : Int32)).toUInt32.toUInt16.toUInt32.toInt32), nar .char ((p1 &&& (255 : Int32)).toUInt32.toUInt16.toUInt32.toInt32)] : List Int32), ¬ c < 0 ∧ ¬ (255 : Int32) < c := by
    intro c hc
    rw [own_narc, own_narc] at hc
    simp only [List.mem_cons, List.not_mem_nil, or_false] at hc
    rcases hc with rfl | rfl
    · exact own_in255 _ (own_m255 p0).1 (own_m255 p0).2
    · exact own_in255 _ (own_m255 p1).1 (own_m255 p1).2
  have f12 := (Nat.le_trans f9 E10.1)
  have f13 := (V7.ext E10)
  have f14 := ((((pO.ext E1).wr W4 G1).wr W7 G1).ext E10)
  obtain ⟨_, _, ⟨T15, L15, k15, n15⟩, -, X15, ⟨Lc15, hQ15, l15, y15, z15⟩, st15⟩ := X10.specialBack hx (y := (⟨"java/lang/String", "<init>", "([C)V"⟩ : MethodName)) rfl hown (mvT hZ (hw _ (List.mem_of_getElem? (i := 4) rfl))) (mvT hZ (hw _ (List.mem_of_getElem? (i := 5) rfl))) (mvT hZ (hw _ (List.mem_of_getElem? (i := 6) rfl))) (by decide) (StrChars.Road.backV (W := 1) hZ hws (kI := 4) (hw _ (List.mem_of_getElem? (i := 2) rfl)) (cs := ([nar .char ((p0 &&& (255 : Int32)).toUInt32.toUInt16.toUInt32.toInt32), nar .char ((p1 &&& (255 : Int32)).toUInt32.toUInt16.toUInt32.toInt32)] : List Int32)) (bs := (([nar .char ((p0 &&& (255 : Int32)).toUInt32.toUInt16.toUInt32.toInt32), nar .char ((p1 &&& (255 : Int32)).toUInt32.toUInt16.toUInt32.toInt32)] : List Int32)).map (fun c => c.toInt8.toInt32)) (n := 2) G10 f12 A10 D10_value D10_coder f13 (pS_COMPACT_STRINGS.ext f14.2) pP5 rfl rfl (by decide) (by decide) hp rfl (by decide) (by decide)) (g := (mkF m 27 #[.val (.int p0), .val (.int p1), .val (.int p2), .val (.ref b1), .unset, .unset, .unset, .unset, .unset, .unset] [(.ref b1), (.ref b10), (.ref b10)])) rfl (by rw [hml]; rfl) (Steps.refl _) (a := b10) (argsL := [(.ref b1)]) (rest := [(.ref b10)]) (lenOf pd___C_V rfl) rfl (by show 2 * 0 + _ ≤ _; exact Nat.le_of_eq rfl) (hb hby at_27) (fun _ _ => ⟨rfl, e10, (by decide : 2 + 1 ≤ _), (by decide : 6 + 2 ≤ _)⟩)
  dsimp only [Pt.U, Pt.locs, Pt.cells, Pt.slots] at X15 l15 y15 z15 st15 hQ15
  subst l15 y15 z15
  obtain ⟨rfl, Nq15, Kq15, q15_E, q15_c, t15, kb15, q15_g, q15_b, q15_n, q15_v, q15_V⟩ := hQ15
  have N15 := Fr.app N7 Nq15
  have K16 : Keep h0 T15.heap [] := K11.trans Kq15 (allS (Or.inr B10) all0)
  have Bf17 : h0.size ≤ t15 := Nat.le_trans K11.1 q15_b
  refine own_tr st15 ?_
  show own_Go p e below T15 (mkF m 30 #[.val (.int p0), .val (.int p1), .val (.int p2), .val (.ref b1), .unset, .unset, .unset, .unset, .unset, .unset] [(.ref b10)]) _
  refine own_st (fun t k => XS.astore X15.here hx rfl (hb hby at_30) rfl rfl (l' := #[.val (.int p0), .val (.int p1), .val (.int p2), .val (.ref b1), .val (.ref b10), .unset, .unset, .unset, .unset, .unset]) rfl k) ?_
  show own_Go p e below T15 (mkF m 32 #[.val (.int p0), .val (.int p1), .val (.int p2), .val (.ref b1), .val (.ref b10), .unset, .unset, .unset, .unset, .unset] []) _
  have f18 := (Nat.le_trans f12 Kq15.1)
  obtain ⟨T19, h19, X19, e19, E19, A19, D19, -, st19⟩ := newO X15 hx hZ hown (hw _ (List.mem_of_getElem? (i := 30) rfl)) (hw _ (List.mem_of_getElem? (i := 31) rfl)) (hw _ (List.mem_of_getElem? (i := 32) rfl)) rfl (g := (mkF m 32 #[.val (.int p0), .val (.int p1), .val (.int p2), .val (.ref b1), .val (.ref b10), .unset, .unset, .unset, .unset, .unset] [])) rfl (hb hby at_32) (by decide) (by decide)
  obtain ⟨b19, g19⟩ : ∃ z, z = T15.heap.size := ⟨_, rfl⟩
  rw [← g19] at A19 D19 st19
  have G19 : n0 ≤ b19 := Nat.le_trans f18 (Nat.le_of_eq g19.symm)
  have B19 : h0.size ≤ b19 := Nat.le_trans K16.1 (Nat.le_of_eq g19.symm)
  have K20 : Keep h0 h19 [] := K16.ext E19
  have D19_methods : Fld Z h19 b19 "com/example/phlow/phlow/policy/PolicyClass" "methods" "Ljava/util/Map;" .null := D19 (Or.inr (hw _ (List.mem_of_getElem? (i := 64) rfl))) (ty := (.object "java/util/Map")) (by decide)
  have D19_attributes : Fld Z h19 b19 "com/example/phlow/phlow/policy/PolicyClass" "attributes" "Ljava/util/Map;" .null := D19 (Or.inr (hw _ (List.mem_of_getElem? (i := 66) rfl))) (ty := (.object "java/util/Map")) (by decide)
  have D19_name : Fld Z h19 b19 "com/example/phlow/phlow/policy/PolicyClass" "name" "Ljava/lang/String;" .null := D19 (Or.inr (hw _ (List.mem_of_getElem? (i := 68) rfl))) (ty := (.object "java/lang/String")) (by decide)
  have D19_foreign : Fld Z h19 b19 "com/example/phlow/phlow/policy/PolicyClass" "foreign" "Z" (.int (0 : Int32)) := D19 (Or.inl (hw _ (List.mem_of_getElem? (i := 75) rfl))) (ty := .boolean) (by decide)
  refine own_st st19 ?_
  show own_Go p e below T19 (mkF m 35 #[.val (.int p0), .val (.int p1), .val (.int p2), .val (.ref b1), .val (.ref b10), .unset, .unset, .unset, .unset, .unset] [(.ref b19)]) _
  refine own_st (fun t k => XS.dup X19.here hx rfl (hb hby at_35) rfl rfl k) ?_
  show own_Go p e below T19 (mkF m 36 #[.val (.int p0), .val (.int p1), .val (.int p2), .val (.ref b1), .val (.ref b10), .unset, .unset, .unset, .unset, .unset] [(.ref b19), (.ref b19)]) _
  refine own_st (fun t k => XS.aload X19.here hx rfl (hb hby at_36) rfl rfl k) ?_
  show own_Go p e below T19 (mkF m 38 #[.val (.int p0), .val (.int p1), .val (.int p2), .val (.ref b1), .val (.ref b10), .unset, .unset, .unset, .unset, .unset] [(.ref b10), (.ref b19), (.ref b19)]) _
  have f21 := (Nat.le_trans f18 E19.1)
  obtain ⟨_, _, ⟨T22, L22, k22, n22⟩, -, X22, ⟨Lc22, hQ22, l22, y22, z22⟩, st22⟩ := X19.specialBack hx (y := (⟨"com/example/phlow/phlow/policy/PolicyClass", "<init>", "(Ljava/lang/String;)V"⟩ : MethodName)) rfl hown (mvT hZ (hw _ (List.mem_of_getElem? (i := 33) rfl))) (mvT hZ (hw _ (List.mem_of_getElem? (i := 34) rfl))) (mvT hZ (hw _ (List.mem_of_getElem? (i := 35) rfl))) (by decide) (backOf (W := 1) (rmPC l Z a0 hw [] b19 b10 .null .null .null ((0 : Int32)) h19 n0 f21 A19 D19_methods D19_attributes D19_name D19_foreign G19) hZ (hw _ (List.mem_of_getElem? (i := 35) rfl)) (hw _ (List.mem_of_getElem? (i := 32) rfl)) (by decide) (by decide)) (g := (mkF m 38 #[.val (.int p0), .val (.int p1), .val (.int p2), .val (.ref b1), .val (.ref b10), .unset, .unset, .unset, .unset, .unset] [(.ref b10), (.ref b19), (.ref b19)])) rfl (by rw [hml]; rfl) (Steps.refl _) (a := b19) (argsL := [(.ref b10)]) (rest := [(.ref b19)]) (lenOf pd__Ljava_lang_String__V rfl) rfl (by show 2 * 0 + _ ≤ _; exact Nat.le_of_eq rfl) (hb hby at_38) (fun _ _ => ⟨rfl, e19, (by decide : 4 + 2 ≤ _), (by decide : 12 + 24 ≤ _)⟩)
  dsimp only [Pt.U, Pt.locs, Pt.cells, Pt.slots] at X22 l22 y22 z22 st22 hQ22
  subst l22 y22 z22
  obtain ⟨rfl, Nq22, Kq22, q22_0, q22_1⟩ := hQ22
  have N22 := Fr.app N15 Nq22
  have K23 : Keep h0 T22.heap [] := K20.trans Kq22 (allS (Or.inr B19) all0)
  refine own_tr st22 ?_
  show own_Go p e below T22 (mkF m 41 #[.val (.int p0), .val (.int p1), .val (.int p2), .val (.ref b1), .val (.ref b10), .unset, .unset, .unset, .unset, .unset] [(.ref b19)]) _
  refine own_st (fun t k => XS.astore X22.here hx rfl (hb hby at_41) rfl rfl (l' := #[.val (.int p0), .val (.int p1), .val (.int p2), .val (.ref b1), .val (.ref b10), .val (.ref b19), .unset, .unset, .unset, .unset]) rfl k) ?_
  show own_Go p e below T22 (mkF m 43 #[.val (.int p0), .val (.int p1), .val (.int p2), .val (.ref b1), .val (.ref b10), .val (.ref b19), .unset, .unset, .unset, .unset] []) _
  refine own_st (fun t k => XS.aload X22.here hx rfl (hb hby at_43) rfl rfl k) ?_
  show own_Go p e below T22 (mkF m 45 #[.val (.int p0), .val (.int p1), .val (.int p2), .val (.ref b1), .val (.ref b10), .val (.ref b19), .unset, .unset, .unset, .unset] [(.ref b19)]) _
  have f24 := (Nat.le_trans f21 Kq22.1)
  have f26 := (A19.keep Kq22)
  obtain ⟨cq25, kq25, qa25, qb25, qc25⟩ := isOf hZ rfl f26
  obtain ⟨_, _, ⟨T25, L25, k25, n25⟩, -, X25, ⟨Lc25, hQ25, l25, y25, z25⟩, st25⟩ := X22.virtualBack hx (y := (⟨"com/example/phlow/phlow/policy/PolicyClass", "isForeign", "()Z"⟩ : MethodName)) (z := (⟨"com/example/phlow/phlow/policy/PolicyClass", "isForeign", "()Z"⟩ : MethodName)) hown (mvT hZ (hw _ (List.mem_of_getElem? (i := 69) rfl))) (mvT hZ (hw _ (List.mem_of_getElem? (i := 70) rfl))) (notFace_of_selects (args := #[]) (mvT hZ (hw _ (List.mem_of_getElem? (i := 72) rfl)))) (mvT hZ (hw _ (List.mem_of_getElem? (i := 72) rfl))) (mvT hZ (hw _ (List.mem_of_getElem? (i := 71) rfl))) (by decide) (backOf (W := 0) (rmIF l Z a0 hw [] b19 ((0 : Int32)) T22.heap n0 f24 q22_1 (by decide)) hZ (hw _ (List.mem_of_getElem? (i := 73) rfl)) (hw _ (List.mem_of_getElem? (i := 32) rfl)) (by decide) (by decide)) qa25 qc25 (g := (mkF m 45 #[.val (.int p0), .val (.int p1), .val (.int p2), .val (.ref b1), .val (.ref b10), .val (.ref b19), .unset, .unset, .unset, .unset] [(.ref b19)])) rfl (by rw [hml]; rfl) (Steps.refl _) (argsL := []) (rest := []) (lenOf pd___Z rfl) rfl (by show 2 * 0 + _ ≤ _; exact Nat.le_of_eq rfl) (hb hby at_45) (fun _ _ => ⟨rfl, rfl, (by decide : 6 + 0 ≤ _), (by decide : 36 + 0 ≤ _)⟩)
  dsimp only [Pt.U, Pt.locs, Pt.cells, Pt.slots] at X25 l25 y25 z25 st25 hQ25
  subst l25 y25 z25
  obtain ⟨rfl, Nq25, eH25⟩ := hQ25
  have N25 := Fr.app N22 Nq25
  refine own_tr st25 ?_
  show own_Go p e below T25 (mkF m 48 #[.val (.int p0), .val (.int p1), .val (.int p2), .val (.ref b1), .val (.ref b10), .val (.ref b19), .unset, .unset, .unset, .unset] [(.int (0 : Int32))]) _
  refine own_st (fun t k => XS.ifNo X25.here hx rfl (hb hby at_48) rfl (by decide) k) ?_
  show own_Go p e below T25 (mkF m 51 #[.val (.int p0), .val (.int p1), .val (.int p2), .val (.ref b1), .val (.ref b10), .val (.ref b19), .unset, .unset, .unset, .unset] []) _
  refine own_st (fun t k => XS.iconst X25.here hx rfl (hb hby at_51) k) ?_
  show own_Go p e below T25 (mkF m 52 #[.val (.int p0), .val (.int p1), .val (.int p2), .val (.ref b1), .val (.ref b10), .val (.ref b19), .unset, .unset, .unset, .unset] [(.int (1 : Int32))]) _
  refine own_st (fun t k => XS.goto X25.here hx rfl (pc0 := 52) (pc' := 56) rfl (hb hby at_52) (by decide) (by decide) k) ?_
  show own_Go p e below T25 (mkF m 56 #[.val (.int p0), .val (.int p1), .val (.int p2), .val (.ref b1), .val (.ref b10), .val (.ref b19), .unset, .unset, .unset, .unset] [(.int (1 : Int32))]) _
  refine own_st (fun t k => XS.istore X25.here hx rfl (hb hby at_56) rfl (l' := #[.val (.int p0), .val (.int p1), .val (.int p2), .val (.ref b1), .val (.ref b10), .val (.ref b19), .val (.int (1 : Int32)), .unset, .unset, .unset]) rfl k) ?_
  show own_Go p e below T25 (mkF m 58 #[.val (.int p0), .val (.int p1), .val (.int p2), .val (.ref b1), .val (.ref b10), .val (.ref b19), .val (.int (1 : Int32)), .unset, .unset, .unset] []) _
  refine own_st (fun t k => XS.iloadN X25.here hx rfl (hb hby at_58) rfl k) ?_
  show own_Go p e below T25 (mkF m 59 #[.val (.int p0), .val (.int p1), .val (.int p2), .val (.ref b1), .val (.ref b10), .val (.ref b19), .val (.int (1 : Int32)), .unset, .unset, .unset] [(.int p2)]) _
  refine own_st (fun t k => XS.iconst X25.here hx rfl (hb hby at_59) k) ?_
  show own_Go p e below T25 (mkF m 60 #[.val (.int p0), .val (.int p1), .val (.int p2), .val (.ref b1), .val (.ref b10), .val (.ref b19), .val (.int (1 : Int32)), .unset, .unset, .unset] [(.int (3 : Int32)), (.int p2)]) _
  refine own_st (fun t k => XS.iand X25.here hx rfl (hb hby at_60) rfl k) ?_
  show own_Go p e below T25 (mkF m 61 #[.val (.int p0), .val (.int p1), .val (.int p2), .val (.ref b1), .val (.ref b10), .val (.ref b19), .val (.int (1 : Int32)), .unset, .unset, .unset] [(.int (p2 &&& (3 : Int32)))]) _
  rw [hpre]
  show own_Go p e below T25 (mkF m 61 #[.val (.int p0), .val (.int p1), .val (.int p2), .val (.ref b1), .val (.ref b10), .val (.ref b19), .val (.int (1 : Int32)), .unset, .unset, .unset] [(.int (2 : Int32))]) _
  refine own_st (fun t k => XS.istore X25.here hx rfl (hb hby at_61) rfl (l' := #[.val (.int p0), .val (.int p1), .val (.int p2), .val (.ref b1), .val (.ref b10), .val (.ref b19), .val (.int (1 : Int32)), .val (.int (2 : Int32)), .unset, .unset]) rfl k) ?_
  show own_Go p e below T25 (mkF m 63 #[.val (.int p0), .val (.int p1), .val (.int p2), .val (.ref b1), .val (.ref b10), .val (.ref b19), .val (.int (1 : Int32)), .val (.int (2 : Int32)), .unset, .unset] []) _
  refine own_st (fun t k => XS.iload X25.here hx rfl (hb hby at_63) rfl k) ?_
  show own_Go p e below T25 (mkF m 65 #[.val (.int p0), .val (.int p1), .val (.int p2), .val (.ref b1), .val (.ref b10), .val (.ref b19), .val (.int (1 : Int32)), .val (.int (2 : Int32)), .unset, .unset] [(.int (2 : Int32))]) _
  refine own_st (fun t k => XS.iconst X25.here hx rfl (hb hby at_65) k) ?_
  show own_Go p e below T25 (mkF m 66 #[.val (.int p0), .val (.int p1), .val (.int p2), .val (.ref b1), .val (.ref b10), .val (.ref b19), .val (.int (1 : Int32)), .val (.int (2 : Int32)), .unset, .unset] [(.int (1 : Int32)), (.int (2 : Int32))]) _
  refine own_st (fun t k => XS.icmpNo X25.here hx rfl (hb hby at_66) rfl (by decide) k) ?_
  show own_Go p e below T25 (mkF m 69 #[.val (.int p0), .val (.int p1), .val (.int p2), .val (.ref b1), .val (.ref b10), .val (.ref b19), .val (.int (1 : Int32)), .val (.int (2 : Int32)), .unset, .unset] []) _
  refine own_st (fun t k => XS.iload X25.here hx rfl (hb hby at_69) rfl k) ?_
  show own_Go p e below T25 (mkF m 71 #[.val (.int p0), .val (.int p1), .val (.int p2), .val (.ref b1), .val (.ref b10), .val (.ref b19), .val (.int (1 : Int32)), .val (.int (2 : Int32)), .unset, .unset] [(.int (1 : Int32))]) _
  refine own_st (fun t k => XS.aload X25.here hx rfl (hb hby at_71) rfl rfl k) ?_
  show own_Go p e below T25 (mkF m 73 #[.val (.int p0), .val (.int p1), .val (.int p2), .val (.ref b1), .val (.ref b10), .val (.ref b19), .val (.int (1 : Int32)), .val (.int (2 : Int32)), .unset, .unset] [(.ref b19), (.int (1 : Int32))]) _
  obtain ⟨cq27, kq27, qa27, qb27, qc27⟩ := isOf hZ eH25 f26
  obtain ⟨_, _, ⟨T27, L27, k27, n27⟩, -, X27, ⟨Lc27, hQ27, l27, y27, z27⟩, st27⟩ := X25.virtualBack hx (y := (⟨"com/example/phlow/phlow/policy/PolicyClass", "markForeign", "()Z"⟩ : MethodName)) (z := (⟨"com/example/phlow/phlow/policy/PolicyClass", "markForeign", "()Z"⟩ : MethodName)) hown (mvT hZ (hw _ (List.mem_of_getElem? (i := 76) rfl))) (mvT hZ (hw _ (List.mem_of_getElem? (i := 77) rfl))) (notFace_of_selects (args := #[]) (mvT hZ (hw _ (List.mem_of_getElem? (i := 79) rfl)))) (mvT hZ (hw _ (List.mem_of_getElem? (i := 79) rfl))) (mvT hZ (hw _ (List.mem_of_getElem? (i := 78) rfl))) (by decide) (backOf (W := 1) (rmMF0 l Z a0 hw [] b19 b10 T22.heap n0 f24 f26 q22_1 q22_0 G19) hZ (hw _ (List.mem_of_getElem? (i := 80) rfl)) (hw _ (List.mem_of_getElem? (i := 32) rfl)) (by decide) (by decide)) qa27 qc27 (g := (mkF m 73 #[.val (.int p0), .val (.int p1), .val (.int p2), .val (.ref b1), .val (.ref b10), .val (.ref b19), .val (.int (1 : Int32)), .val (.int (2 : Int32)), .unset, .unset] [(.ref b19), (.int (1 : Int32))])) rfl (by rw [hml]; rfl) (Steps.refl _) (argsL := []) (rest := [(.int (1 : Int32))]) (lenOf pd___Z rfl) rfl (by show 2 * 0 + _ ≤ _; exact Nat.le_of_eq rfl) (hb hby at_73) (fun _ _ => ⟨rfl, eH25, (by decide : 6 + 0 ≤ _), (by decide : 36 + 0 ≤ _)⟩)
  dsimp only [Pt.U, Pt.locs, Pt.cells, Pt.slots] at X27 l27 y27 z27 st27 hQ27
  subst l27 y27 z27
  obtain ⟨rfl, Nq27, Kq27, q27_0, q27_1⟩ := hQ27
  have N27 := Fr.app N25 Nq27
  have K28 : Keep h0 T27.heap [] := K23.trans Kq27 (allS (Or.inr B19) all0)
  refine own_tr st27 ?_
  show own_Go p e below T27 (mkF m 76 #[.val (.int p0), .val (.int p1), .val (.int p2), .val (.ref b1), .val (.ref b10), .val (.ref b19), .val (.int (1 : Int32)), .val (.int (2 : Int32)), .unset, .unset] [(.int (1 : Int32)), (.int (1 : Int32))]) _
  refine own_st (fun t k => XS.iand X27.here hx rfl (hb hby at_76) rfl k) ?_
  show own_Go p e below T27 (mkF m 77 #[.val (.int p0), .val (.int p1), .val (.int p2), .val (.ref b1), .val (.ref b10), .val (.ref b19), .val (.int (1 : Int32)), .val (.int (2 : Int32)), .unset, .unset] [(.int (1 : Int32))]) _
  refine own_st (fun t k => XS.istore X27.here hx rfl (hb hby at_77) rfl (l' := #[.val (.int p0), .val (.int p1), .val (.int p2), .val (.ref b1), .val (.ref b10), .val (.ref b19), .val (.int (1 : Int32)), .val (.int (2 : Int32)), .unset, .unset]) rfl k) ?_
  show own_Go p e below T27 (mkF m 79 #[.val (.int p0), .val (.int p1), .val (.int p2), .val (.ref b1), .val (.ref b10), .val (.ref b19), .val (.int (1 : Int32)), .val (.int (2 : Int32)), .unset, .unset] []) _
  refine own_st (fun t k => XS.iload X27.here hx rfl (hb hby at_79) rfl k) ?_
  show own_Go p e below T27 (mkF m 81 #[.val (.int p0), .val (.int p1), .val (.int p2), .val (.ref b1), .val (.ref b10), .val (.ref b19), .val (.int (1 : Int32)), .val (.int (2 : Int32)), .unset, .unset] [(.int (2 : Int32))]) _
  refine own_st (fun t k => XS.iconst X27.here hx rfl (hb hby at_81) k) ?_
  show own_Go p e below T27 (mkF m 82 #[.val (.int p0), .val (.int p1), .val (.int p2), .val (.ref b1), .val (.ref b10), .val (.ref b19), .val (.int (1 : Int32)), .val (.int (2 : Int32)), .unset, .unset] [(.int (2 : Int32)), (.int (2 : Int32))]) _
  refine own_st (fun t k => XS.icmpNo X27.here hx rfl (hb hby at_82) rfl (by decide) k) ?_
  show own_Go p e below T27 (mkF m 85 #[.val (.int p0), .val (.int p1), .val (.int p2), .val (.ref b1), .val (.ref b10), .val (.ref b19), .val (.int (1 : Int32)), .val (.int (2 : Int32)), .unset, .unset] []) _
  refine own_st (fun t k => XS.iload X27.here hx rfl (hb hby at_85) rfl k) ?_
  show own_Go p e below T27 (mkF m 87 #[.val (.int p0), .val (.int p1), .val (.int p2), .val (.ref b1), .val (.ref b10), .val (.ref b19), .val (.int (1 : Int32)), .val (.int (2 : Int32)), .unset, .unset] [(.int (1 : Int32))]) _
  refine own_st (fun t k => XS.aload X27.here hx rfl (hb hby at_87) rfl rfl k) ?_
  show own_Go p e below T27 (mkF m 89 #[.val (.int p0), .val (.int p1), .val (.int p2), .val (.ref b1), .val (.ref b10), .val (.ref b19), .val (.int (1 : Int32)), .val (.int (2 : Int32)), .unset, .unset] [(.ref b19), (.int (1 : Int32))]) _
  have f29 := (Nat.le_trans f24 Kq27.1)
  have f30 := (f26.keep Kq27)
  obtain ⟨cq31, kq31, qa31, qb31, qc31⟩ := isOf hZ rfl f30
  obtain ⟨_, _, ⟨T31, L31, k31, n31⟩, -, X31, ⟨Lc31, hQ31, l31, y31, z31⟩, st31⟩ := X27.virtualBack hx (y := (⟨"com/example/phlow/phlow/policy/PolicyClass", "markForeign", "()Z"⟩ : MethodName)) (z := (⟨"com/example/phlow/phlow/policy/PolicyClass", "markForeign", "()Z"⟩ : MethodName)) hown (mvT hZ (hw _ (List.mem_of_getElem? (i := 76) rfl))) (mvT hZ (hw _ (List.mem_of_getElem? (i := 77) rfl))) (notFace_of_selects (args := #[]) (mvT hZ (hw _ (List.mem_of_getElem? (i := 79) rfl)))) (mvT hZ (hw _ (List.mem_of_getElem? (i := 79) rfl))) (mvT hZ (hw _ (List.mem_of_getElem? (i := 78) rfl))) (by decide) (backOf (W := 1) (rmMF1 l Z a0 hw [] b19 b10 T27.heap n0 f29 f30 q27_0 q27_1 G19) hZ (hw _ (List.mem_of_getElem? (i := 80) rfl)) (hw _ (List.mem_of_getElem? (i := 32) rfl)) (by decide) (by decide)) qa31 qc31 (g := (mkF m 89 #[.val (.int p0), .val (.int p1), .val (.int p2), .val (.ref b1), .val (.ref b10), .val (.ref b19), .val (.int (1 : Int32)), .val (.int (2 : Int32)), .unset, .unset] [(.ref b19), (.int (1 : Int32))])) rfl (by rw [hml]; rfl) (Steps.refl _) (argsL := []) (rest := [(.int (1 : Int32))]) (lenOf pd___Z rfl) rfl (by show 2 * 0 + _ ≤ _; exact Nat.le_of_eq rfl) (hb hby at_89) (fun _ _ => ⟨rfl, rfl, (by decide : 6 + 0 ≤ _), (by decide : 36 + 0 ≤ _)⟩)
  dsimp only [Pt.U, Pt.locs, Pt.cells, Pt.slots] at X31 l31 y31 z31 st31 hQ31
  subst l31 y31 z31
  obtain ⟨rfl, Nq31, Kq31, q31_0, q31_1⟩ := hQ31
  have N31 := Fr.app N27 Nq31
  have K32 : Keep h0 T31.heap [] := K28.trans Kq31 (allS (Or.inr B19) all0)
  refine own_tr st31 ?_
  show own_Go p e below T31 (mkF m 92 #[.val (.int p0), .val (.int p1), .val (.int p2), .val (.ref b1), .val (.ref b10), .val (.ref b19), .val (.int (1 : Int32)), .val (.int (2 : Int32)), .unset, .unset] [(.int (0 : Int32)), (.int (1 : Int32))]) _
  refine own_st (fun t k => XS.ifNo X31.here hx rfl (hb hby at_92) rfl (by decide) k) ?_
  show own_Go p e below T31 (mkF m 95 #[.val (.int p0), .val (.int p1), .val (.int p2), .val (.ref b1), .val (.ref b10), .val (.ref b19), .val (.int (1 : Int32)), .val (.int (2 : Int32)), .unset, .unset] [(.int (1 : Int32))]) _
  refine own_st (fun t k => XS.iconst X31.here hx rfl (hb hby at_95) k) ?_
  show own_Go p e below T31 (mkF m 96 #[.val (.int p0), .val (.int p1), .val (.int p2), .val (.ref b1), .val (.ref b10), .val (.ref b19), .val (.int (1 : Int32)), .val (.int (2 : Int32)), .unset, .unset] [(.int (1 : Int32)), (.int (1 : Int32))]) _
  refine own_st (fun t k => XS.goto X31.here hx rfl (pc0 := 96) (pc' := 100) rfl (hb hby at_96) (by decide) (by decide) k) ?_
  show own_Go p e below T31 (mkF m 100 #[.val (.int p0), .val (.int p1), .val (.int p2), .val (.ref b1), .val (.ref b10), .val (.ref b19), .val (.int (1 : Int32)), .val (.int (2 : Int32)), .unset, .unset] [(.int (1 : Int32)), (.int (1 : Int32))]) _
  refine own_st (fun t k => XS.iand X31.here hx rfl (hb hby at_100) rfl k) ?_
  show own_Go p e below T31 (mkF m 101 #[.val (.int p0), .val (.int p1), .val (.int p2), .val (.ref b1), .val (.ref b10), .val (.ref b19), .val (.int (1 : Int32)), .val (.int (2 : Int32)), .unset, .unset] [(.int (1 : Int32))]) _
  refine own_st (fun t k => XS.istore X31.here hx rfl (hb hby at_101) rfl (l' := #[.val (.int p0), .val (.int p1), .val (.int p2), .val (.ref b1), .val (.ref b10), .val (.ref b19), .val (.int (1 : Int32)), .val (.int (2 : Int32)), .unset, .unset]) rfl k) ?_
  show own_Go p e below T31 (mkF m 103 #[.val (.int p0), .val (.int p1), .val (.int p2), .val (.ref b1), .val (.ref b10), .val (.ref b19), .val (.int (1 : Int32)), .val (.int (2 : Int32)), .unset, .unset] []) _
  refine own_st (fun t k => XS.iload X31.here hx rfl (hb hby at_103) rfl k) ?_
  show own_Go p e below T31 (mkF m 105 #[.val (.int p0), .val (.int p1), .val (.int p2), .val (.ref b1), .val (.ref b10), .val (.ref b19), .val (.int (1 : Int32)), .val (.int (2 : Int32)), .unset, .unset] [(.int (2 : Int32))]) _
  refine own_st (fun t k => XS.iconst X31.here hx rfl (hb hby at_105) k) ?_
  show own_Go p e below T31 (mkF m 106 #[.val (.int p0), .val (.int p1), .val (.int p2), .val (.ref b1), .val (.ref b10), .val (.ref b19), .val (.int (1 : Int32)), .val (.int (2 : Int32)), .unset, .unset] [(.int (3 : Int32)), (.int (2 : Int32))]) _
  refine own_st (fun t k => XS.icmpYes X31.here hx rfl (pc0 := 106) (pc' := 127) rfl (hb hby at_106) rfl (by decide) (by decide) (by decide) k) ?_
  show own_Go p e below T31 (mkF m 127 #[.val (.int p0), .val (.int p1), .val (.int p2), .val (.ref b1), .val (.ref b10), .val (.ref b19), .val (.int (1 : Int32)), .val (.int (2 : Int32)), .unset, .unset] []) _
  refine own_st (fun t k => XS.aload X31.here hx rfl (hb hby at_127) rfl rfl k) ?_
  show own_Go p e below T31 (mkF m 129 #[.val (.int p0), .val (.int p1), .val (.int p2), .val (.ref b1), .val (.ref b10), .val (.ref b19), .val (.int (1 : Int32)), .val (.int (2 : Int32)), .unset, .unset] [(.ref b19)]) _
  have f33 := (Nat.le_trans f29 Kq31.1)
  have f35 := (f30.keep Kq31)
  obtain ⟨cq34, kq34, qa34, qb34, qc34⟩ := isOf hZ rfl f35
  obtain ⟨_, _, ⟨T34, L34, k34, n34⟩, -, X34, ⟨Lc34, hQ34, l34, y34, z34⟩, st34⟩ := X31.virtualBack hx (y := (⟨"com/example/phlow/phlow/policy/PolicyClass", "isForeign", "()Z"⟩ : MethodName)) (z := (⟨"com/example/phlow/phlow/policy/PolicyClass", "isForeign", "()Z"⟩ : MethodName)) hown (mvT hZ (hw _ (List.mem_of_getElem? (i := 69) rfl))) (mvT hZ (hw _ (List.mem_of_getElem? (i := 70) rfl))) (notFace_of_selects (args := #[]) (mvT hZ (hw _ (List.mem_of_getElem? (i := 72) rfl)))) (mvT hZ (hw _ (List.mem_of_getElem? (i := 72) rfl))) (mvT hZ (hw _ (List.mem_of_getElem? (i := 71) rfl))) (by decide) (backOf (W := 0) (rmIF l Z a0 hw [] b19 ((1 : Int32)) T31.heap n0 f33 q31_0 (by decide)) hZ (hw _ (List.mem_of_getElem? (i := 73) rfl)) (hw _ (List.mem_of_getElem? (i := 32) rfl)) (by decide) (by decide)) qa34 qc34 (g := (mkF m 129 #[.val (.int p0), .val (.int p1), .val (.int p2), .val (.ref b1), .val (.ref b10), .val (.ref b19), .val (.int (1 : Int32)), .val (.int (2 : Int32)), .unset, .unset] [(.ref b19)])) rfl (by rw [hml]; rfl) (Steps.refl _) (argsL := []) (rest := []) (lenOf pd___Z rfl) rfl (by show 2 * 0 + _ ≤ _; exact Nat.le_of_eq rfl) (hb hby at_129) (fun _ _ => ⟨rfl, rfl, (by decide : 6 + 0 ≤ _), (by decide : 36 + 0 ≤ _)⟩)
  dsimp only [Pt.U, Pt.locs, Pt.cells, Pt.slots] at X34 l34 y34 z34 st34 hQ34
  subst l34 y34 z34
  obtain ⟨rfl, Nq34, eH34⟩ := hQ34
  have N34 := Fr.app N31 Nq34
  refine own_tr st34 ?_
  show own_Go p e below T34 (mkF m 132 #[.val (.int p0), .val (.int p1), .val (.int p2), .val (.ref b1), .val (.ref b10), .val (.ref b19), .val (.int (1 : Int32)), .val (.int (2 : Int32)), .unset, .unset] [(.int (1 : Int32))]) _
  refine own_st (fun t k => XS.istore X34.here hx rfl (hb hby at_132) rfl (l' := #[.val (.int p0), .val (.int p1), .val (.int p2), .val (.ref b1), .val (.ref b10), .val (.ref b19), .val (.int (1 : Int32)), .val (.int (2 : Int32)), .val (.int (1 : Int32)), .unset]) rfl k) ?_
  show own_Go p e below T34 (mkF m 134 #[.val (.int p0), .val (.int p1), .val (.int p2), .val (.ref b1), .val (.ref b10), .val (.ref b19), .val (.int (1 : Int32)), .val (.int (2 : Int32)), .val (.int (1 : Int32)), .unset] []) _
  refine own_st (fun t k => XS.iload X34.here hx rfl (hb hby at_134) rfl k) ?_
  show own_Go p e below T34 (mkF m 136 #[.val (.int p0), .val (.int p1), .val (.int p2), .val (.ref b1), .val (.ref b10), .val (.ref b19), .val (.int (1 : Int32)), .val (.int (2 : Int32)), .val (.int (1 : Int32)), .unset] [(.int (1 : Int32))]) _
  refine own_st (fun t k => XS.iload X34.here hx rfl (hb hby at_136) rfl k) ?_
  show own_Go p e below T34 (mkF m 138 #[.val (.int p0), .val (.int p1), .val (.int p2), .val (.ref b1), .val (.ref b10), .val (.ref b19), .val (.int (1 : Int32)), .val (.int (2 : Int32)), .val (.int (1 : Int32)), .unset] [(.int (1 : Int32)), (.int (1 : Int32))]) _
  refine own_st (fun t k => XS.iload X34.here hx rfl (hb hby at_138) rfl k) ?_
  show own_Go p e below T34 (mkF m 140 #[.val (.int p0), .val (.int p1), .val (.int p2), .val (.ref b1), .val (.ref b10), .val (.ref b19), .val (.int (1 : Int32)), .val (.int (2 : Int32)), .val (.int (1 : Int32)), .unset] [(.int (2 : Int32)), (.int (1 : Int32)), (.int (1 : Int32))]) _
  refine own_st (fun t k => XS.iconst X34.here hx rfl (hb hby at_140) k) ?_
  show own_Go p e below T34 (mkF m 141 #[.val (.int p0), .val (.int p1), .val (.int p2), .val (.ref b1), .val (.ref b10), .val (.ref b19), .val (.int (1 : Int32)), .val (.int (2 : Int32)), .val (.int (1 : Int32)), .unset] [(.int (1 : Int32)), (.int (2 : Int32)), (.int (1 : Int32)), (.int (1 : Int32))]) _
  refine own_st (fun t k => XS.icmpNo X34.here hx rfl (hb hby at_141) rfl (by decide) k) ?_
  show own_Go p e below T34 (mkF m 144 #[.val (.int p0), .val (.int p1), .val (.int p2), .val (.ref b1), .val (.ref b10), .val (.ref b19), .val (.int (1 : Int32)), .val (.int (2 : Int32)), .val (.int (1 : Int32)), .unset] [(.int (1 : Int32)), (.int (1 : Int32))]) _
  refine own_st (fun t k => XS.iconst X34.here hx rfl (hb hby at_144) k) ?_
  show own_Go p e below T34 (mkF m 145 #[.val (.int p0), .val (.int p1), .val (.int p2), .val (.ref b1), .val (.ref b10), .val (.ref b19), .val (.int (1 : Int32)), .val (.int (2 : Int32)), .val (.int (1 : Int32)), .unset] [(.int (1 : Int32)), (.int (1 : Int32)), (.int (1 : Int32))]) _
  refine own_st (fun t k => XS.goto X34.here hx rfl (pc0 := 145) (pc' := 149) rfl (hb hby at_145) (by decide) (by decide) k) ?_
  show own_Go p e below T34 (mkF m 149 #[.val (.int p0), .val (.int p1), .val (.int p2), .val (.ref b1), .val (.ref b10), .val (.ref b19), .val (.int (1 : Int32)), .val (.int (2 : Int32)), .val (.int (1 : Int32)), .unset] [(.int (1 : Int32)), (.int (1 : Int32)), (.int (1 : Int32))]) _
  refine own_st (fun t k => XS.icmpNo X34.here hx rfl (hb hby at_149) rfl (by decide) k) ?_
  show own_Go p e below T34 (mkF m 152 #[.val (.int p0), .val (.int p1), .val (.int p2), .val (.ref b1), .val (.ref b10), .val (.ref b19), .val (.int (1 : Int32)), .val (.int (2 : Int32)), .val (.int (1 : Int32)), .unset] [(.int (1 : Int32))]) _
  refine own_st (fun t k => XS.iconst X34.here hx rfl (hb hby at_152) k) ?_
  show own_Go p e below T34 (mkF m 153 #[.val (.int p0), .val (.int p1), .val (.int p2), .val (.ref b1), .val (.ref b10), .val (.ref b19), .val (.int (1 : Int32)), .val (.int (2 : Int32)), .val (.int (1 : Int32)), .unset] [(.int (1 : Int32)), (.int (1 : Int32))]) _
  refine own_st (fun t k => XS.goto X34.here hx rfl (pc0 := 153) (pc' := 157) rfl (hb hby at_153) (by decide) (by decide) k) ?_
  show own_Go p e below T34 (mkF m 157 #[.val (.int p0), .val (.int p1), .val (.int p2), .val (.ref b1), .val (.ref b10), .val (.ref b19), .val (.int (1 : Int32)), .val (.int (2 : Int32)), .val (.int (1 : Int32)), .unset] [(.int (1 : Int32)), (.int (1 : Int32))]) _
  refine own_st (fun t k => XS.iand X34.here hx rfl (hb hby at_157) rfl k) ?_
  show own_Go p e below T34 (mkF m 158 #[.val (.int p0), .val (.int p1), .val (.int p2), .val (.ref b1), .val (.ref b10), .val (.ref b19), .val (.int (1 : Int32)), .val (.int (2 : Int32)), .val (.int (1 : Int32)), .unset] [(.int (1 : Int32))]) _
  refine own_st (fun t k => XS.istore X34.here hx rfl (hb hby at_158) rfl (l' := #[.val (.int p0), .val (.int p1), .val (.int p2), .val (.ref b1), .val (.ref b10), .val (.ref b19), .val (.int (1 : Int32)), .val (.int (2 : Int32)), .val (.int (1 : Int32)), .unset]) rfl k) ?_
  show own_Go p e below T34 (mkF m 160 #[.val (.int p0), .val (.int p1), .val (.int p2), .val (.ref b1), .val (.ref b10), .val (.ref b19), .val (.int (1 : Int32)), .val (.int (2 : Int32)), .val (.int (1 : Int32)), .unset] []) _
  refine own_st (fun t k => XS.aload X34.here hx rfl (hb hby at_160) rfl rfl k) ?_
  show own_Go p e below T34 (mkF m 162 #[.val (.int p0), .val (.int p1), .val (.int p2), .val (.ref b1), .val (.ref b10), .val (.ref b19), .val (.int (1 : Int32)), .val (.int (2 : Int32)), .val (.int (1 : Int32)), .unset] [(.ref b19)]) _
  obtain ⟨cq36, kq36, qa36, qb36, qc36⟩ := isOf hZ eH34 f35
  obtain ⟨_, _, ⟨T36, L36, k36, n36⟩, -, X36, ⟨Lc36, hQ36, l36, y36, z36⟩, st36⟩ := X34.virtualBack hx (y := (⟨"com/example/phlow/phlow/policy/PolicyClass", "markForeign", "()Z"⟩ : MethodName)) (z := (⟨"com/example/phlow/phlow/policy/PolicyClass", "markForeign", "()Z"⟩ : MethodName)) hown (mvT hZ (hw _ (List.mem_of_getElem? (i := 76) rfl))) (mvT hZ (hw _ (List.mem_of_getElem? (i := 77) rfl))) (notFace_of_selects (args := #[]) (mvT hZ (hw _ (List.mem_of_getElem? (i := 79) rfl)))) (mvT hZ (hw _ (List.mem_of_getElem? (i := 79) rfl))) (mvT hZ (hw _ (List.mem_of_getElem? (i := 78) rfl))) (by decide) (backOf (W := 0) (rmMF1 l Z a0 hw [] b19 b10 T31.heap n0 f33 f35 q31_0 q31_1 G19) hZ (hw _ (List.mem_of_getElem? (i := 80) rfl)) (hw _ (List.mem_of_getElem? (i := 32) rfl)) (by decide) (by decide)) qa36 qc36 (g := (mkF m 162 #[.val (.int p0), .val (.int p1), .val (.int p2), .val (.ref b1), .val (.ref b10), .val (.ref b19), .val (.int (1 : Int32)), .val (.int (2 : Int32)), .val (.int (1 : Int32)), .unset] [(.ref b19)])) rfl (by rw [hml]; rfl) (Steps.refl _) (argsL := []) (rest := []) (lenOf pd___Z rfl) rfl (by show 2 * 0 + _ ≤ _; exact Nat.le_of_eq rfl) (hb hby at_162) (fun _ _ => ⟨rfl, eH34, (by decide : 6 + 0 ≤ _), (by decide : 36 + 0 ≤ _)⟩)
  dsimp only [Pt.U, Pt.locs, Pt.cells, Pt.slots] at X36 l36 y36 z36 st36 hQ36
  subst l36 y36 z36
  obtain ⟨rfl, Nq36, Kq36, q36_0, q36_1⟩ := hQ36
  have N36 := Fr.app N34 Nq36
  have K37 : Keep h0 T36.heap [] := K32.trans Kq36 (allS (Or.inr B19) all0)
  refine own_tr st36 ?_
  show own_Go p e below T36 (mkF m 165 #[.val (.int p0), .val (.int p1), .val (.int p2), .val (.ref b1), .val (.ref b10), .val (.ref b19), .val (.int (1 : Int32)), .val (.int (2 : Int32)), .val (.int (1 : Int32)), .unset] [(.int (0 : Int32))]) _
  refine own_st (fun t k => XS.istore X36.here hx rfl (hb hby at_165) rfl (l' := #[.val (.int p0), .val (.int p1), .val (.int p2), .val (.ref b1), .val (.ref b10), .val (.ref b19), .val (.int (1 : Int32)), .val (.int (2 : Int32)), .val (.int (1 : Int32)), .val (.int (0 : Int32))]) rfl k) ?_
  show own_Go p e below T36 (mkF m 167 #[.val (.int p0), .val (.int p1), .val (.int p2), .val (.ref b1), .val (.ref b10), .val (.ref b19), .val (.int (1 : Int32)), .val (.int (2 : Int32)), .val (.int (1 : Int32)), .val (.int (0 : Int32))] []) _
  refine own_st (fun t k => XS.iload X36.here hx rfl (hb hby at_167) rfl k) ?_
  show own_Go p e below T36 (mkF m 169 #[.val (.int p0), .val (.int p1), .val (.int p2), .val (.ref b1), .val (.ref b10), .val (.ref b19), .val (.int (1 : Int32)), .val (.int (2 : Int32)), .val (.int (1 : Int32)), .val (.int (0 : Int32))] [(.int (1 : Int32))]) _
  refine own_st (fun t k => XS.iload X36.here hx rfl (hb hby at_169) rfl k) ?_
  show own_Go p e below T36 (mkF m 171 #[.val (.int p0), .val (.int p1), .val (.int p2), .val (.ref b1), .val (.ref b10), .val (.ref b19), .val (.int (1 : Int32)), .val (.int (2 : Int32)), .val (.int (1 : Int32)), .val (.int (0 : Int32))] [(.int (0 : Int32)), (.int (1 : Int32))]) _
  refine own_st (fun t k => XS.iload X36.here hx rfl (hb hby at_171) rfl k) ?_
  show own_Go p e below T36 (mkF m 173 #[.val (.int p0), .val (.int p1), .val (.int p2), .val (.ref b1), .val (.ref b10), .val (.ref b19), .val (.int (1 : Int32)), .val (.int (2 : Int32)), .val (.int (1 : Int32)), .val (.int (0 : Int32))] [(.int (1 : Int32)), (.int (0 : Int32)), (.int (1 : Int32))]) _
  refine own_st (fun t k => XS.ifYes X36.here hx rfl (pc0 := 173) (pc' := 180) rfl (hb hby at_173) rfl (by decide) (by decide) (by decide) k) ?_
  show own_Go p e below T36 (mkF m 180 #[.val (.int p0), .val (.int p1), .val (.int p2), .val (.ref b1), .val (.ref b10), .val (.ref b19), .val (.int (1 : Int32)), .val (.int (2 : Int32)), .val (.int (1 : Int32)), .val (.int (0 : Int32))] [(.int (0 : Int32)), (.int (1 : Int32))]) _
  refine own_st (fun t k => XS.iconst X36.here hx rfl (hb hby at_180) k) ?_
  show own_Go p e below T36 (mkF m 181 #[.val (.int p0), .val (.int p1), .val (.int p2), .val (.ref b1), .val (.ref b10), .val (.ref b19), .val (.int (1 : Int32)), .val (.int (2 : Int32)), .val (.int (1 : Int32)), .val (.int (0 : Int32))] [(.int (0 : Int32)), (.int (0 : Int32)), (.int (1 : Int32))]) _
  refine own_st (fun t k => XS.icmpNo X36.here hx rfl (hb hby at_181) rfl (by decide) k) ?_
  show own_Go p e below T36 (mkF m 184 #[.val (.int p0), .val (.int p1), .val (.int p2), .val (.ref b1), .val (.ref b10), .val (.ref b19), .val (.int (1 : Int32)), .val (.int (2 : Int32)), .val (.int (1 : Int32)), .val (.int (0 : Int32))] [(.int (1 : Int32))]) _
  refine own_st (fun t k => XS.iconst X36.here hx rfl (hb hby at_184) k) ?_
  show own_Go p e below T36 (mkF m 185 #[.val (.int p0), .val (.int p1), .val (.int p2), .val (.ref b1), .val (.ref b10), .val (.ref b19), .val (.int (1 : Int32)), .val (.int (2 : Int32)), .val (.int (1 : Int32)), .val (.int (0 : Int32))] [(.int (1 : Int32)), (.int (1 : Int32))]) _
  refine own_st (fun t k => XS.goto X36.here hx rfl (pc0 := 185) (pc' := 189) rfl (hb hby at_185) (by decide) (by decide) k) ?_
  show own_Go p e below T36 (mkF m 189 #[.val (.int p0), .val (.int p1), .val (.int p2), .val (.ref b1), .val (.ref b10), .val (.ref b19), .val (.int (1 : Int32)), .val (.int (2 : Int32)), .val (.int (1 : Int32)), .val (.int (0 : Int32))] [(.int (1 : Int32)), (.int (1 : Int32))]) _
  refine own_st (fun t k => XS.iand X36.here hx rfl (hb hby at_189) rfl k) ?_
  show own_Go p e below T36 (mkF m 190 #[.val (.int p0), .val (.int p1), .val (.int p2), .val (.ref b1), .val (.ref b10), .val (.ref b19), .val (.int (1 : Int32)), .val (.int (2 : Int32)), .val (.int (1 : Int32)), .val (.int (0 : Int32))] [(.int (1 : Int32))]) _
  refine own_st (fun t k => XS.istore X36.here hx rfl (hb hby at_190) rfl (l' := #[.val (.int p0), .val (.int p1), .val (.int p2), .val (.ref b1), .val (.ref b10), .val (.ref b19), .val (.int (1 : Int32)), .val (.int (2 : Int32)), .val (.int (1 : Int32)), .val (.int (0 : Int32))]) rfl k) ?_
  show own_Go p e below T36 (mkF m 192 #[.val (.int p0), .val (.int p1), .val (.int p2), .val (.ref b1), .val (.ref b10), .val (.ref b19), .val (.int (1 : Int32)), .val (.int (2 : Int32)), .val (.int (1 : Int32)), .val (.int (0 : Int32))] []) _
  refine own_st (fun t k => XS.iload X36.here hx rfl (hb hby at_192) rfl k) ?_
  show own_Go p e below T36 (mkF m 194 #[.val (.int p0), .val (.int p1), .val (.int p2), .val (.ref b1), .val (.ref b10), .val (.ref b19), .val (.int (1 : Int32)), .val (.int (2 : Int32)), .val (.int (1 : Int32)), .val (.int (0 : Int32))] [(.int (1 : Int32))]) _
  refine own_st (fun t k => XS.iload X36.here hx rfl (hb hby at_194) rfl k) ?_
  show own_Go p e below T36 (mkF m 196 #[.val (.int p0), .val (.int p1), .val (.int p2), .val (.ref b1), .val (.ref b10), .val (.ref b19), .val (.int (1 : Int32)), .val (.int (2 : Int32)), .val (.int (1 : Int32)), .val (.int (0 : Int32))] [(.int (0 : Int32)), (.int (1 : Int32))]) _
  refine own_st (fun t k => XS.iload X36.here hx rfl (hb hby at_196) rfl k) ?_
  show own_Go p e below T36 (mkF m 198 #[.val (.int p0), .val (.int p1), .val (.int p2), .val (.ref b1), .val (.ref b10), .val (.ref b19), .val (.int (1 : Int32)), .val (.int (2 : Int32)), .val (.int (1 : Int32)), .val (.int (0 : Int32))] [(.int (2 : Int32)), (.int (0 : Int32)), (.int (1 : Int32))]) _
  refine own_st (fun t k => XS.ifYes X36.here hx rfl (pc0 := 198) (pc' := 205) rfl (hb hby at_198) rfl (by decide) (by decide) (by decide) k) ?_
  show own_Go p e below T36 (mkF m 205 #[.val (.int p0), .val (.int p1), .val (.int p2), .val (.ref b1), .val (.ref b10), .val (.ref b19), .val (.int (1 : Int32)), .val (.int (2 : Int32)), .val (.int (1 : Int32)), .val (.int (0 : Int32))] [(.int (0 : Int32)), (.int (1 : Int32))]) _
  refine own_st (fun t k => XS.iconst X36.here hx rfl (hb hby at_205) k) ?_
  show own_Go p e below T36 (mkF m 206 #[.val (.int p0), .val (.int p1), .val (.int p2), .val (.ref b1), .val (.ref b10), .val (.ref b19), .val (.int (1 : Int32)), .val (.int (2 : Int32)), .val (.int (1 : Int32)), .val (.int (0 : Int32))] [(.int (0 : Int32)), (.int (0 : Int32)), (.int (1 : Int32))]) _
  refine own_st (fun t k => XS.icmpNo X36.here hx rfl (hb hby at_206) rfl (by decide) k) ?_
  show own_Go p e below T36 (mkF m 209 #[.val (.int p0), .val (.int p1), .val (.int p2), .val (.ref b1), .val (.ref b10), .val (.ref b19), .val (.int (1 : Int32)), .val (.int (2 : Int32)), .val (.int (1 : Int32)), .val (.int (0 : Int32))] [(.int (1 : Int32))]) _
  refine own_st (fun t k => XS.iconst X36.here hx rfl (hb hby at_209) k) ?_
  show own_Go p e below T36 (mkF m 210 #[.val (.int p0), .val (.int p1), .val (.int p2), .val (.ref b1), .val (.ref b10), .val (.ref b19), .val (.int (1 : Int32)), .val (.int (2 : Int32)), .val (.int (1 : Int32)), .val (.int (0 : Int32))] [(.int (1 : Int32)), (.int (1 : Int32))]) _
  refine own_st (fun t k => XS.goto X36.here hx rfl (pc0 := 210) (pc' := 214) rfl (hb hby at_210) (by decide) (by decide) k) ?_
  show own_Go p e below T36 (mkF m 214 #[.val (.int p0), .val (.int p1), .val (.int p2), .val (.ref b1), .val (.ref b10), .val (.ref b19), .val (.int (1 : Int32)), .val (.int (2 : Int32)), .val (.int (1 : Int32)), .val (.int (0 : Int32))] [(.int (1 : Int32)), (.int (1 : Int32))]) _
  refine own_st (fun t k => XS.iand X36.here hx rfl (hb hby at_214) rfl k) ?_
  show own_Go p e below T36 (mkF m 215 #[.val (.int p0), .val (.int p1), .val (.int p2), .val (.ref b1), .val (.ref b10), .val (.ref b19), .val (.int (1 : Int32)), .val (.int (2 : Int32)), .val (.int (1 : Int32)), .val (.int (0 : Int32))] [(.int (1 : Int32))]) _
  refine own_st (fun t k => XS.istore X36.here hx rfl (hb hby at_215) rfl (l' := #[.val (.int p0), .val (.int p1), .val (.int p2), .val (.ref b1), .val (.ref b10), .val (.ref b19), .val (.int (1 : Int32)), .val (.int (2 : Int32)), .val (.int (1 : Int32)), .val (.int (0 : Int32))]) rfl k) ?_
  show own_Go p e below T36 (mkF m 217 #[.val (.int p0), .val (.int p1), .val (.int p2), .val (.ref b1), .val (.ref b10), .val (.ref b19), .val (.int (1 : Int32)), .val (.int (2 : Int32)), .val (.int (1 : Int32)), .val (.int (0 : Int32))] []) _
  refine own_st (fun t k => XS.iload X36.here hx rfl (hb hby at_217) rfl k) ?_
  show own_Go p e below T36 (mkF m 219 #[.val (.int p0), .val (.int p1), .val (.int p2), .val (.ref b1), .val (.ref b10), .val (.ref b19), .val (.int (1 : Int32)), .val (.int (2 : Int32)), .val (.int (1 : Int32)), .val (.int (0 : Int32))] [(.int (1 : Int32))]) _
  refine own_st (fun t k => XS.aload X36.here hx rfl (hb hby at_219) rfl rfl k) ?_
  show own_Go p e below T36 (mkF m 221 #[.val (.int p0), .val (.int p1), .val (.int p2), .val (.ref b1), .val (.ref b10), .val (.ref b19), .val (.int (1 : Int32)), .val (.int (2 : Int32)), .val (.int (1 : Int32)), .val (.int (0 : Int32))] [(.ref b19), (.int (1 : Int32))]) _
  have f38 := (Nat.le_trans f33 Kq36.1)
  have f40 := (f35.keep Kq36)
  obtain ⟨cq39, kq39, qa39, qb39, qc39⟩ := isOf hZ rfl f40
  obtain ⟨_, _, ⟨T39, L39, k39, n39⟩, -, X39, ⟨Lc39, hQ39, l39, y39, z39⟩, st39⟩ := X36.virtualBack hx (y := (⟨"com/example/phlow/phlow/policy/PolicyClass", "isForeign", "()Z"⟩ : MethodName)) (z := (⟨"com/example/phlow/phlow/policy/PolicyClass", "isForeign", "()Z"⟩ : MethodName)) hown (mvT hZ (hw _ (List.mem_of_getElem? (i := 69) rfl))) (mvT hZ (hw _ (List.mem_of_getElem? (i := 70) rfl))) (notFace_of_selects (args := #[]) (mvT hZ (hw _ (List.mem_of_getElem? (i := 72) rfl)))) (mvT hZ (hw _ (List.mem_of_getElem? (i := 72) rfl))) (mvT hZ (hw _ (List.mem_of_getElem? (i := 71) rfl))) (by decide) (backOf (W := 1) (rmIF l Z a0 hw [] b19 ((1 : Int32)) T36.heap n0 f38 q36_0 (by decide)) hZ (hw _ (List.mem_of_getElem? (i := 73) rfl)) (hw _ (List.mem_of_getElem? (i := 32) rfl)) (by decide) (by decide)) qa39 qc39 (g := (mkF m 221 #[.val (.int p0), .val (.int p1), .val (.int p2), .val (.ref b1), .val (.ref b10), .val (.ref b19), .val (.int (1 : Int32)), .val (.int (2 : Int32)), .val (.int (1 : Int32)), .val (.int (0 : Int32))] [(.ref b19), (.int (1 : Int32))])) rfl (by rw [hml]; rfl) (Steps.refl _) (argsL := []) (rest := [(.int (1 : Int32))]) (lenOf pd___Z rfl) rfl (by show 2 * 0 + _ ≤ _; exact Nat.le_of_eq rfl) (hb hby at_221) (fun _ _ => ⟨rfl, rfl, (by decide : 6 + 0 ≤ _), (by decide : 36 + 0 ≤ _)⟩)
  dsimp only [Pt.U, Pt.locs, Pt.cells, Pt.slots] at X39 l39 y39 z39 st39 hQ39
  subst l39 y39 z39
  obtain ⟨rfl, Nq39, eH39⟩ := hQ39
  have N39 := Fr.app N36 Nq39
  refine own_tr st39 ?_
  show own_Go p e below T39 (mkF m 224 #[.val (.int p0), .val (.int p1), .val (.int p2), .val (.ref b1), .val (.ref b10), .val (.ref b19), .val (.int (1 : Int32)), .val (.int (2 : Int32)), .val (.int (1 : Int32)), .val (.int (0 : Int32))] [(.int (1 : Int32)), (.int (1 : Int32))]) _
  refine own_st (fun t k => XS.iand X39.here hx rfl (hb hby at_224) rfl k) ?_
  show own_Go p e below T39 (mkF m 225 #[.val (.int p0), .val (.int p1), .val (.int p2), .val (.ref b1), .val (.ref b10), .val (.ref b19), .val (.int (1 : Int32)), .val (.int (2 : Int32)), .val (.int (1 : Int32)), .val (.int (0 : Int32))] [(.int (1 : Int32))]) _
  refine own_st (fun t k => XS.istore X39.here hx rfl (hb hby at_225) rfl (l' := #[.val (.int p0), .val (.int p1), .val (.int p2), .val (.ref b1), .val (.ref b10), .val (.ref b19), .val (.int (1 : Int32)), .val (.int (2 : Int32)), .val (.int (1 : Int32)), .val (.int (0 : Int32))]) rfl k) ?_
  show own_Go p e below T39 (mkF m 227 #[.val (.int p0), .val (.int p1), .val (.int p2), .val (.ref b1), .val (.ref b10), .val (.ref b19), .val (.int (1 : Int32)), .val (.int (2 : Int32)), .val (.int (1 : Int32)), .val (.int (0 : Int32))] []) _
  refine own_st (fun t k => XS.iload X39.here hx rfl (hb hby at_227) rfl k) ?_
  show own_Go p e below T39 (mkF m 229 #[.val (.int p0), .val (.int p1), .val (.int p2), .val (.ref b1), .val (.ref b10), .val (.ref b19), .val (.int (1 : Int32)), .val (.int (2 : Int32)), .val (.int (1 : Int32)), .val (.int (0 : Int32))] [(.int (1 : Int32))]) _
  refine own_st (fun t k => XS.aload X39.here hx rfl (hb hby at_229) rfl rfl k) ?_
  show own_Go p e below T39 (mkF m 231 #[.val (.int p0), .val (.int p1), .val (.int p2), .val (.ref b1), .val (.ref b10), .val (.ref b19), .val (.int (1 : Int32)), .val (.int (2 : Int32)), .val (.int (1 : Int32)), .val (.int (0 : Int32))] [(.ref b19), (.int (1 : Int32))]) _
  obtain ⟨cq41, kq41, qa41, qb41, qc41⟩ := isOf hZ eH39 f40
  obtain ⟨_, _, ⟨T41, L41, k41, n41⟩, -, X41, ⟨Lc41, hQ41, l41, y41, z41⟩, st41⟩ := X39.virtualBack hx (y := (⟨"com/example/phlow/phlow/policy/PolicyClass", "markForeign", "()Z"⟩ : MethodName)) (z := (⟨"com/example/phlow/phlow/policy/PolicyClass", "markForeign", "()Z"⟩ : MethodName)) hown (mvT hZ (hw _ (List.mem_of_getElem? (i := 76) rfl))) (mvT hZ (hw _ (List.mem_of_getElem? (i := 77) rfl))) (notFace_of_selects (args := #[]) (mvT hZ (hw _ (List.mem_of_getElem? (i := 79) rfl)))) (mvT hZ (hw _ (List.mem_of_getElem? (i := 79) rfl))) (mvT hZ (hw _ (List.mem_of_getElem? (i := 78) rfl))) (by decide) (backOf (W := 1) (rmMF1 l Z a0 hw [] b19 b10 T36.heap n0 f38 f40 q36_0 q36_1 G19) hZ (hw _ (List.mem_of_getElem? (i := 80) rfl)) (hw _ (List.mem_of_getElem? (i := 32) rfl)) (by decide) (by decide)) qa41 qc41 (g := (mkF m 231 #[.val (.int p0), .val (.int p1), .val (.int p2), .val (.ref b1), .val (.ref b10), .val (.ref b19), .val (.int (1 : Int32)), .val (.int (2 : Int32)), .val (.int (1 : Int32)), .val (.int (0 : Int32))] [(.ref b19), (.int (1 : Int32))])) rfl (by rw [hml]; rfl) (Steps.refl _) (argsL := []) (rest := [(.int (1 : Int32))]) (lenOf pd___Z rfl) rfl (by show 2 * 0 + _ ≤ _; exact Nat.le_of_eq rfl) (hb hby at_231) (fun _ _ => ⟨rfl, eH39, (by decide : 6 + 0 ≤ _), (by decide : 36 + 0 ≤ _)⟩)
  dsimp only [Pt.U, Pt.locs, Pt.cells, Pt.slots] at X41 l41 y41 z41 st41 hQ41
  subst l41 y41 z41
  obtain ⟨rfl, Nq41, Kq41, q41_0, q41_1⟩ := hQ41
  have N41 := Fr.app N39 Nq41
  have K42 : Keep h0 T41.heap [] := K37.trans Kq41 (allS (Or.inr B19) all0)
  refine own_tr st41 ?_
  show own_Go p e below T41 (mkF m 234 #[.val (.int p0), .val (.int p1), .val (.int p2), .val (.ref b1), .val (.ref b10), .val (.ref b19), .val (.int (1 : Int32)), .val (.int (2 : Int32)), .val (.int (1 : Int32)), .val (.int (0 : Int32))] [(.int (0 : Int32)), (.int (1 : Int32))]) _
  refine own_st (fun t k => XS.ifNo X41.here hx rfl (hb hby at_234) rfl (by decide) k) ?_
  show own_Go p e below T41 (mkF m 237 #[.val (.int p0), .val (.int p1), .val (.int p2), .val (.ref b1), .val (.ref b10), .val (.ref b19), .val (.int (1 : Int32)), .val (.int (2 : Int32)), .val (.int (1 : Int32)), .val (.int (0 : Int32))] [(.int (1 : Int32))]) _
  refine own_st (fun t k => XS.iconst X41.here hx rfl (hb hby at_237) k) ?_
  show own_Go p e below T41 (mkF m 238 #[.val (.int p0), .val (.int p1), .val (.int p2), .val (.ref b1), .val (.ref b10), .val (.ref b19), .val (.int (1 : Int32)), .val (.int (2 : Int32)), .val (.int (1 : Int32)), .val (.int (0 : Int32))] [(.int (1 : Int32)), (.int (1 : Int32))]) _
  refine own_st (fun t k => XS.goto X41.here hx rfl (pc0 := 238) (pc' := 242) rfl (hb hby at_238) (by decide) (by decide) k) ?_
  show own_Go p e below T41 (mkF m 242 #[.val (.int p0), .val (.int p1), .val (.int p2), .val (.ref b1), .val (.ref b10), .val (.ref b19), .val (.int (1 : Int32)), .val (.int (2 : Int32)), .val (.int (1 : Int32)), .val (.int (0 : Int32))] [(.int (1 : Int32)), (.int (1 : Int32))]) _
  refine own_st (fun t k => XS.iand X41.here hx rfl (hb hby at_242) rfl k) ?_
  show own_Go p e below T41 (mkF m 243 #[.val (.int p0), .val (.int p1), .val (.int p2), .val (.ref b1), .val (.ref b10), .val (.ref b19), .val (.int (1 : Int32)), .val (.int (2 : Int32)), .val (.int (1 : Int32)), .val (.int (0 : Int32))] [(.int (1 : Int32))]) _
  refine own_st (fun t k => XS.istore X41.here hx rfl (hb hby at_243) rfl (l' := #[.val (.int p0), .val (.int p1), .val (.int p2), .val (.ref b1), .val (.ref b10), .val (.ref b19), .val (.int (1 : Int32)), .val (.int (2 : Int32)), .val (.int (1 : Int32)), .val (.int (0 : Int32))]) rfl k) ?_
  show own_Go p e below T41 (mkF m 245 #[.val (.int p0), .val (.int p1), .val (.int p2), .val (.ref b1), .val (.ref b10), .val (.ref b19), .val (.int (1 : Int32)), .val (.int (2 : Int32)), .val (.int (1 : Int32)), .val (.int (0 : Int32))] []) _
  refine own_st (fun t k => XS.iload X41.here hx rfl (hb hby at_245) rfl k) ?_
  show own_Go p e below T41 (mkF m 247 #[.val (.int p0), .val (.int p1), .val (.int p2), .val (.ref b1), .val (.ref b10), .val (.ref b19), .val (.int (1 : Int32)), .val (.int (2 : Int32)), .val (.int (1 : Int32)), .val (.int (0 : Int32))] [(.int (1 : Int32))]) _
  refine own_st (fun t k => XS.aload X41.here hx rfl (hb hby at_247) rfl rfl k) ?_
  show own_Go p e below T41 (mkF m 249 #[.val (.int p0), .val (.int p1), .val (.int p2), .val (.ref b1), .val (.ref b10), .val (.ref b19), .val (.int (1 : Int32)), .val (.int (2 : Int32)), .val (.int (1 : Int32)), .val (.int (0 : Int32))] [(.ref b19), (.int (1 : Int32))]) _
  have f43 := (Nat.le_trans f38 Kq41.1)
  have f45 := (f40.keep Kq41)
  obtain ⟨cq44, kq44, qa44, qb44, qc44⟩ := isOf hZ rfl f45
  obtain ⟨_, _, ⟨T44, L44, k44, n44⟩, -, X44, ⟨Lc44, hQ44, l44, y44, z44⟩, st44⟩ := X41.virtualBack hx (y := (⟨"com/example/phlow/phlow/policy/PolicyClass", "isForeign", "()Z"⟩ : MethodName)) (z := (⟨"com/example/phlow/phlow/policy/PolicyClass", "isForeign", "()Z"⟩ : MethodName)) hown (mvT hZ (hw _ (List.mem_of_getElem? (i := 69) rfl))) (mvT hZ (hw _ (List.mem_of_getElem? (i := 70) rfl))) (notFace_of_selects (args := #[]) (mvT hZ (hw _ (List.mem_of_getElem? (i := 72) rfl)))) (mvT hZ (hw _ (List.mem_of_getElem? (i := 72) rfl))) (mvT hZ (hw _ (List.mem_of_getElem? (i := 71) rfl))) (by decide) (backOf (W := 1) (rmIF l Z a0 hw [] b19 ((1 : Int32)) T41.heap n0 f43 q41_0 (by decide)) hZ (hw _ (List.mem_of_getElem? (i := 73) rfl)) (hw _ (List.mem_of_getElem? (i := 32) rfl)) (by decide) (by decide)) qa44 qc44 (g := (mkF m 249 #[.val (.int p0), .val (.int p1), .val (.int p2), .val (.ref b1), .val (.ref b10), .val (.ref b19), .val (.int (1 : Int32)), .val (.int (2 : Int32)), .val (.int (1 : Int32)), .val (.int (0 : Int32))] [(.ref b19), (.int (1 : Int32))])) rfl (by rw [hml]; rfl) (Steps.refl _) (argsL := []) (rest := [(.int (1 : Int32))]) (lenOf pd___Z rfl) rfl (by show 2 * 0 + _ ≤ _; exact Nat.le_of_eq rfl) (hb hby at_249) (fun _ _ => ⟨rfl, rfl, (by decide : 6 + 0 ≤ _), (by decide : 36 + 0 ≤ _)⟩)
  dsimp only [Pt.U, Pt.locs, Pt.cells, Pt.slots] at X44 l44 y44 z44 st44 hQ44
  subst l44 y44 z44
  obtain ⟨rfl, Nq44, eH44⟩ := hQ44
  have N44 := Fr.app N41 Nq44
  refine own_tr st44 ?_
  show own_Go p e below T44 (mkF m 252 #[.val (.int p0), .val (.int p1), .val (.int p2), .val (.ref b1), .val (.ref b10), .val (.ref b19), .val (.int (1 : Int32)), .val (.int (2 : Int32)), .val (.int (1 : Int32)), .val (.int (0 : Int32))] [(.int (1 : Int32)), (.int (1 : Int32))]) _
  refine own_st (fun t k => XS.iand X44.here hx rfl (hb hby at_252) rfl k) ?_
  show own_Go p e below T44 (mkF m 253 #[.val (.int p0), .val (.int p1), .val (.int p2), .val (.ref b1), .val (.ref b10), .val (.ref b19), .val (.int (1 : Int32)), .val (.int (2 : Int32)), .val (.int (1 : Int32)), .val (.int (0 : Int32))] [(.int (1 : Int32))]) _
  refine own_st (fun t k => XS.istore X44.here hx rfl (hb hby at_253) rfl (l' := #[.val (.int p0), .val (.int p1), .val (.int p2), .val (.ref b1), .val (.ref b10), .val (.ref b19), .val (.int (1 : Int32)), .val (.int (2 : Int32)), .val (.int (1 : Int32)), .val (.int (0 : Int32))]) rfl k) ?_
  show own_Go p e below T44 (mkF m 255 #[.val (.int p0), .val (.int p1), .val (.int p2), .val (.ref b1), .val (.ref b10), .val (.ref b19), .val (.int (1 : Int32)), .val (.int (2 : Int32)), .val (.int (1 : Int32)), .val (.int (0 : Int32))] []) _
  refine own_st (fun t k => XS.iload X44.here hx rfl (hb hby at_255) rfl k) ?_
  show own_Go p e below T44 (mkF m 257 #[.val (.int p0), .val (.int p1), .val (.int p2), .val (.ref b1), .val (.ref b10), .val (.ref b19), .val (.int (1 : Int32)), .val (.int (2 : Int32)), .val (.int (1 : Int32)), .val (.int (0 : Int32))] [(.int (1 : Int32))]) _
  refine own_st (fun t k => XS.aload X44.here hx rfl (hb hby at_257) rfl rfl k) ?_
  show own_Go p e below T44 (mkF m 259 #[.val (.int p0), .val (.int p1), .val (.int p2), .val (.ref b1), .val (.ref b10), .val (.ref b19), .val (.int (1 : Int32)), .val (.int (2 : Int32)), .val (.int (1 : Int32)), .val (.int (0 : Int32))] [(.ref b19), (.int (1 : Int32))]) _
  obtain ⟨cq46, kq46, qa46, qb46, qc46⟩ := isOf hZ eH44 f45
  obtain ⟨_, _, ⟨T46, L46, k46, n46⟩, -, X46, ⟨Lc46, hQ46, l46, y46, z46⟩, st46⟩ := X44.virtualBack hx (y := (⟨"com/example/phlow/phlow/policy/PolicyClass", "name", "()Ljava/lang/String;"⟩ : MethodName)) (z := (⟨"com/example/phlow/phlow/policy/PolicyClass", "name", "()Ljava/lang/String;"⟩ : MethodName)) hown (mvT hZ (hw _ (List.mem_of_getElem? (i := 81) rfl))) (mvT hZ (hw _ (List.mem_of_getElem? (i := 82) rfl))) (notFace_of_selects (args := #[]) (mvT hZ (hw _ (List.mem_of_getElem? (i := 84) rfl)))) (mvT hZ (hw _ (List.mem_of_getElem? (i := 84) rfl))) (mvT hZ (hw _ (List.mem_of_getElem? (i := 83) rfl))) (by decide) (backOf (W := 1) (rmNM l Z a0 hw [] b19 b10 T41.heap n0 f43 q41_1) hZ (hw _ (List.mem_of_getElem? (i := 85) rfl)) (hw _ (List.mem_of_getElem? (i := 32) rfl)) (by decide) (by decide)) qa46 qc46 (g := (mkF m 259 #[.val (.int p0), .val (.int p1), .val (.int p2), .val (.ref b1), .val (.ref b10), .val (.ref b19), .val (.int (1 : Int32)), .val (.int (2 : Int32)), .val (.int (1 : Int32)), .val (.int (0 : Int32))] [(.ref b19), (.int (1 : Int32))])) rfl (by rw [hml]; rfl) (Steps.refl _) (argsL := []) (rest := [(.int (1 : Int32))]) (lenOf pd___Ljava_lang_String_ rfl) rfl (by show 2 * 0 + _ ≤ _; exact Nat.le_of_eq rfl) (hb hby at_259) (fun _ _ => ⟨rfl, eH44, (by decide : 6 + 0 ≤ _), (by decide : 36 + 0 ≤ _)⟩)
  dsimp only [Pt.U, Pt.locs, Pt.cells, Pt.slots] at X46 l46 y46 z46 st46 hQ46
  subst l46 y46 z46
  obtain ⟨rfl, Nq46, eH46⟩ := hQ46
  have N46 := Fr.app N44 Nq46
  refine own_tr st46 ?_
  show own_Go p e below T46 (mkF m 262 #[.val (.int p0), .val (.int p1), .val (.int p2), .val (.ref b1), .val (.ref b10), .val (.ref b19), .val (.int (1 : Int32)), .val (.int (2 : Int32)), .val (.int (1 : Int32)), .val (.int (0 : Int32))] [(.ref b10), (.int (1 : Int32))]) _
  refine own_st (fun t k => XS.aload X46.here hx rfl (hb hby at_262) rfl rfl k) ?_
  show own_Go p e below T46 (mkF m 264 #[.val (.int p0), .val (.int p1), .val (.int p2), .val (.ref b1), .val (.ref b10), .val (.ref b19), .val (.int (1 : Int32)), .val (.int (2 : Int32)), .val (.int (1 : Int32)), .val (.int (0 : Int32))] [(.ref b10), (.ref b10), (.int (1 : Int32))]) _
  refine own_st (fun t k => Jvm.RoadKit.acmp (g := (mkF m 264 #[.val (.int p0), .val (.int p1), .val (.int p2), .val (.ref b1), .val (.ref b10), .val (.ref b19), .val (.int (1 : Int32)), .val (.int (2 : Int32)), .val (.int (1 : Int32)), .val (.int (0 : Int32))] [(.ref b10), (.ref b10), (.int (1 : Int32))])) X46 hx rfl rfl rfl (pc0 := 264) (pc' := 267) (same := true) rfl (hb hby at_264) rfl (decide_eq_true rfl) (by decide) (by decide) k) ?_
  show own_Go p e below T46 (mkF m 267 #[.val (.int p0), .val (.int p1), .val (.int p2), .val (.ref b1), .val (.ref b10), .val (.ref b19), .val (.int (1 : Int32)), .val (.int (2 : Int32)), .val (.int (1 : Int32)), .val (.int (0 : Int32))] [(.int (1 : Int32))]) _
  refine own_st (fun t k => XS.iconst X46.here hx rfl (hb hby at_267) k) ?_
  show own_Go p e below T46 (mkF m 268 #[.val (.int p0), .val (.int p1), .val (.int p2), .val (.ref b1), .val (.ref b10), .val (.ref b19), .val (.int (1 : Int32)), .val (.int (2 : Int32)), .val (.int (1 : Int32)), .val (.int (0 : Int32))] [(.int (1 : Int32)), (.int (1 : Int32))]) _
  refine own_st (fun t k => XS.goto X46.here hx rfl (pc0 := 268) (pc' := 272) rfl (hb hby at_268) (by decide) (by decide) k) ?_
  show own_Go p e below T46 (mkF m 272 #[.val (.int p0), .val (.int p1), .val (.int p2), .val (.ref b1), .val (.ref b10), .val (.ref b19), .val (.int (1 : Int32)), .val (.int (2 : Int32)), .val (.int (1 : Int32)), .val (.int (0 : Int32))] [(.int (1 : Int32)), (.int (1 : Int32))]) _
  refine own_st (fun t k => XS.iand X46.here hx rfl (hb hby at_272) rfl k) ?_
  show own_Go p e below T46 (mkF m 273 #[.val (.int p0), .val (.int p1), .val (.int p2), .val (.ref b1), .val (.ref b10), .val (.ref b19), .val (.int (1 : Int32)), .val (.int (2 : Int32)), .val (.int (1 : Int32)), .val (.int (0 : Int32))] [(.int (1 : Int32))]) _
  refine own_st (fun t k => XS.istore X46.here hx rfl (hb hby at_273) rfl (l' := #[.val (.int p0), .val (.int p1), .val (.int p2), .val (.ref b1), .val (.ref b10), .val (.ref b19), .val (.int (1 : Int32)), .val (.int (2 : Int32)), .val (.int (1 : Int32)), .val (.int (0 : Int32))]) rfl k) ?_
  show own_Go p e below T46 (mkF m 275 #[.val (.int p0), .val (.int p1), .val (.int p2), .val (.ref b1), .val (.ref b10), .val (.ref b19), .val (.int (1 : Int32)), .val (.int (2 : Int32)), .val (.int (1 : Int32)), .val (.int (0 : Int32))] []) _
  refine own_st (fun t k => XS.iload X46.here hx rfl (hb hby at_275) rfl k) ?_
  show own_Go p e below T46 (mkF m 277 #[.val (.int p0), .val (.int p1), .val (.int p2), .val (.ref b1), .val (.ref b10), .val (.ref b19), .val (.int (1 : Int32)), .val (.int (2 : Int32)), .val (.int (1 : Int32)), .val (.int (0 : Int32))] [(.int (1 : Int32))]) _
  obtain ⟨fs, hr, hrun, hended, hW, hsame⟩ := X46.leave (v := some (.int (1 : Int32))) (fun h => by rw [Bd.returns] at h; cases h)
  refine own_fin (retN X46 hx (t := .boolean) Bd.returns (by simp) (hb hby at_277) hr) ⟨hrun, hended, _, _, rfl, ?_, ⟨_, rfl⟩, hW, hsame.mono (by decide) (by decide)⟩
  show Q_rmLaw2 Z p0 p1 p2 zc h0 n0 _ T46.heap _
  rw [eH46]
  exact ⟨rfl, N46, K42⟩
theorem ef_rmLaw3 (m : MethodId) (x0 : Int32) (x1 : Int32) (x2 : Int32) : entryFrame m #[(.int x0), (.int x1), (.int x2)] maxLocals = mkF m 0 #[.val (.int x0), .val (.int x1), .val (.int x2), .unset, .unset, .unset, .unset, .unset, .unset, .unset] [] := by first | (simp [entryFrame, mkF, argsToLocals, Value.category, maxLocals]; done) | rfl
def Q_rmLaw3 (Z : State) (p0 : Int32) (p1 : Int32) (p2 : Int32) (zc : Int32) (h0 : Heap) (n0 : Nat) (v : Option Value) (h : Heap) (L : List Loc) : Prop := v = some (.int (1 : Int32)) ∧ Fr n0 L ∧ Keep h0 h []
set_option maxRecDepth 65536 in
set_option maxHeartbeats 40000000 in
theorem rmLaw3 (l : Launch) (Z : State) (a0 : Array Value) (hw : ∀ d ∈ tables_1, d.before a0 Z = true) (ws : List Jvm.Cond) (p0 : Int32) (p1 : Int32) (p2 : Int32) (zc : Int32) (h0 : Heap) (n0 : Nat) (Z0 : n0 ≤ h0.size) (pS_COMPACT_STRINGS : Sta Z Z.heap "java/lang/String" "COMPACT_STRINGS" "Z" (.int zc)) (pP5 : ¬ (zc = (0 : Int32))) (pO : Old Z n0 h0) (hpre : p2 &&& (3 : Int32) = (3 : Int32)) :
    MetFree l x (head1 (Jvm.Cond.code x code maxLocals ret :: ws) room_1) (fun a U => a = #[(.int p0), (.int p1), (.int p2)] ∧ Z.Warmed39 U.vm ∧ U.heap = h0) (fun _ _ _ _ _ => True) (fun _ U o U' => ∃ v L, o = .returned v ∧ Q_rmLaw3 Z p0 p1 p2 zc h0 n0 v U'.heap L ∧ FrameEnd U o U' L 24 192) := by
  refine MetFree.of_bodySF (plainFor_of_name pn_0) hisR ?_
  intro p e s m args below meth c s₁ Bd hml0 hP hK
  obtain ⟨rfl, hZ, hh⟩ := hP
  have hx := Bd.exec
  have hby := Bd.bytes
  have hml : c.maxLocals = 10 := hml0
  have hown : s.vm.findClass "com/example/phlow/phlow/policy/PolicyClassMarkForeignPinLaw" = some m.cls := findClass_of_methodNamed Bd.named
  have hnm := (name_of_methodNamed Bd.named Bd.method).1
  have X0 : Stand p l e room_1 s m #[(.int p0), (.int p1), (.int p2)] below meth c s₁ [] 0 0 := Stand.of_body Bd
  have e0 : s₁.heap = h0 := by rw [← hh, Bd.state]; rfl
  have N0 := Fr.nil n0
  refine own_enter (ef_rmLaw3 m p0 p1 p2) ?_
  have hws : ∀ d ∈ StrChars.Road.words, d.before a0 Z = true := fun d hd => hw d ((by decide +kernel : ∀ d ∈ StrChars.Road.words, d ∈ tables_1) d hd)
  refine own_st (fun t k => XS.iconst X0.here hx rfl (hb hby at_0) k) ?_
  show own_Go p e below s₁ (mkF m 1 #[.val (.int p0), .val (.int p1), .val (.int p2), .unset, .unset, .unset, .unset, .unset, .unset, .unset] [(.int (2 : Int32))]) _
  obtain ⟨T1, h1, k1, X1, e1, E1, A1, st1⟩ := newP X0 hx hZ (hw _ (List.mem_of_getElem? (i := 0) rfl)) e0 (g := (mkF m 1 #[.val (.int p0), .val (.int p1), .val (.int p2), .unset, .unset, .unset, .unset, .unset, .unset, .unset] [(.int (2 : Int32))])) rfl (hb hby at_1) rfl (by decide) (cap := 2) (by decide) (by decide) (by decide) (by decide)
  obtain ⟨b1, g1⟩ : ∃ z, z = h0.size := ⟨_, rfl⟩
  rw [← g1] at A1 st1
  have G1 : n0 ≤ b1 := Nat.le_trans Z0 (Nat.le_of_eq g1.symm)
  have B1 : h0.size ≤ b1 := Nat.le_trans (Keep.refl h0 []).1 (Nat.le_of_eq g1.symm)
  have K2 : Keep h0 h1 [] := (Keep.refl h0 []).ext E1
  have V1 : Arv Z h1 b1 k1 .char (2 : Int32) [(.int (0 : Int32)), (.int (0 : Int32))] (.int (0 : Int32)) := (Arv.new A1 (by decide)).pad (pad_rep [] (.int (0 : Int32)) 2)
  refine own_st st1 ?_
  show own_Go p e below T1 (mkF m 3 #[.val (.int p0), .val (.int p1), .val (.int p2), .unset, .unset, .unset, .unset, .unset, .unset, .unset] [(.ref b1)]) _
  refine own_st (fun t k => XS.astoreN X1.here hx rfl (hb hby at_3) rfl rfl (l' := #[.val (.int p0), .val (.int p1), .val (.int p2), .val (.ref b1), .unset, .unset, .unset, .unset, .unset, .unset]) rfl k) ?_
  show own_Go p e below T1 (mkF m 4 #[.val (.int p0), .val (.int p1), .val (.int p2), .val (.ref b1), .unset, .unset, .unset, .unset, .unset, .unset] []) _
  refine own_st (fun t k => XS.aloadN X1.here hx rfl (hb hby at_4) rfl rfl k) ?_
  show own_Go p e below T1 (mkF m 5 #[.val (.int p0), .val (.int p1), .val (.int p2), .val (.ref b1), .unset, .unset, .unset, .unset, .unset, .unset] [(.ref b1)]) _
  refine own_st (fun t k => XS.iconst X1.here hx rfl (hb hby at_5) k) ?_
  show own_Go p e below T1 (mkF m 6 #[.val (.int p0), .val (.int p1), .val (.int p2), .val (.ref b1), .unset, .unset, .unset, .unset, .unset, .unset] [(.int (0 : Int32)), (.ref b1)]) _
  refine own_st (fun t k => XS.iloadN X1.here hx rfl (hb hby at_6) rfl k) ?_
  show own_Go p e below T1 (mkF m 7 #[.val (.int p0), .val (.int p1), .val (.int p2), .val (.ref b1), .unset, .unset, .unset, .unset, .unset, .unset] [(.int p0), (.int (0 : Int32)), (.ref b1)]) _
  refine own_st (fun t k => XS.sipush X1.here hx rfl (hb hby at_7) k) ?_
  show own_Go p e below T1 (mkF m 10 #[.val (.int p0), .val (.int p1), .val (.int p2), .val (.ref b1), .unset, .unset, .unset, .unset, .unset, .unset] [(.int (255 : Int32)), (.int p0), (.int (0 : Int32)), (.ref b1)]) _
  refine own_st (fun t k => XS.iand X1.here hx rfl (hb hby at_10) rfl k) ?_
  show own_Go p e below T1 (mkF m 11 #[.val (.int p0), .val (.int p1), .val (.int p2), .val (.ref b1), .unset, .unset, .unset, .unset, .unset, .unset] [(.int (p0 &&& (255 : Int32))), (.int (0 : Int32)), (.ref b1)]) _
  refine own_st (fun t k => XS.i2c X1.here hx rfl (hb hby at_11) rfl k) ?_
  show own_Go p e below T1 (mkF m 12 #[.val (.int p0), .val (.int p1), .val (.int p2), .val (.ref b1), .unset, .unset, .unset, .unset, .unset, .unset] [(.int ((p0 &&& (255 : Int32)).toUInt32.toUInt16.toUInt32.toInt32)), (.int (0 : Int32)), (.ref b1)]) _
  obtain ⟨cl3, Ar3, q3, Sz3, Nn3, Hh3, Gg3⟩ := V1
  have hin3 : ¬ ((0 : Int32) < 0 ∨ cl3.slots.size ≤ ((0 : Int32)).toNatClampNeg) := inb_of Sz3 ⟨by decide, by decide⟩
  obtain ⟨T4, h4, X4, e4, W4, st4⟩ := stC X1 hx hZ e1 Ar3 (j := (0 : Int32)) hin3 (g := (mkF m 12 #[.val (.int p0), .val (.int p1), .val (.int p2), .val (.ref b1), .unset, .unset, .unset, .unset, .unset, .unset] [(.int ((p0 &&& (255 : Int32)).toUInt32.toUInt16.toUInt32.toInt32)), (.int (0 : Int32)), (.ref b1)])) rfl rfl (hb hby at_12)
  have V4 : Arv Z h4 b1 k1 .char (2 : Int32) [(.int (nar .char ((p0 &&& (255 : Int32)).toUInt32.toUInt16.toUInt32.toInt32))), (.int (0 : Int32))] (.int (0 : Int32)) := Arv.set Ar3 q3 Sz3 Nn3 Hh3 Gg3 (fits_nar_char _) W4 0 rfl (Nat.le_of_ble_eq_true rfl)
  have K5 : Keep h0 h4 [] := K2.wr W4 (Or.inr B1)
  have N4 := Fr.snoc X4 N0 G1
  refine own_st st4 ?_
  show own_Go p e below T4 (mkF m 13 #[.val (.int p0), .val (.int p1), .val (.int p2), .val (.ref b1), .unset, .unset, .unset, .unset, .unset, .unset] []) _
  refine own_st (fun t k => XS.aloadN X4.here hx rfl (hb hby at_13) rfl rfl k) ?_
  show own_Go p e below T4 (mkF m 14 #[.val (.int p0), .val (.int p1), .val (.int p2), .val (.ref b1), .unset, .unset, .unset, .unset, .unset, .unset] [(.ref b1)]) _
  refine own_st (fun t k => XS.iconst X4.here hx rfl (hb hby at_14) k) ?_
  show own_Go p e below T4 (mkF m 15 #[.val (.int p0), .val (.int p1), .val (.int p2), .val (.ref b1), .unset, .unset, .unset, .unset, .unset, .unset] [(.int (1 : Int32)), (.ref b1)]) _
  refine own_st (fun t k => XS.iloadN X4.here hx rfl (hb hby at_15) rfl k) ?_
  show own_Go p e below T4 (mkF m 16 #[.val (.int p0), .val (.int p1), .val (.int p2), .val (.ref b1), .unset, .unset, .unset, .unset, .unset, .unset] [(.int p1), (.int (1 : Int32)), (.ref b1)]) _
  refine own_st (fun t k => XS.sipush X4.here hx rfl (hb hby at_16) k) ?_
  show own_Go p e below T4 (mkF m 19 #[.val (.int p0), .val (.int p1), .val (.int p2), .val (.ref b1), .unset, .unset, .unset, .unset, .unset, .unset] [(.int (255 : Int32)), (.int p1), (.int (1 : Int32)), (.ref b1)]) _
  refine own_st (fun t k => XS.iand X4.here hx rfl (hb hby at_19) rfl k) ?_
  show own_Go p e below T4 (mkF m 20 #[.val (.int p0), .val (.int p1), .val (.int p2), .val (.ref b1), .unset, .unset, .unset, .unset, .unset, .unset] [(.int (p1 &&& (255 : Int32))), (.int (1 : Int32)), (.ref b1)]) _
  refine own_st (fun t k => XS.i2c X4.here hx rfl (hb hby at_20) rfl k) ?_
  show own_Go p e below T4 (mkF m 21 #[.val (.int p0), .val (.int p1), .val (.int p2), .val (.ref b1), .unset, .unset, .unset, .unset, .unset, .unset] [(.int ((p1 &&& (255 : Int32)).toUInt32.toUInt16.toUInt32.toInt32)), (.int (1 : Int32)), (.ref b1)]) _
  obtain ⟨cl6, Ar6, q6, Sz6, Nn6, Hh6, Gg6⟩ := V4
  have hin6 : ¬ ((1 : Int32) < 0 ∨ cl6.slots.size ≤ ((1 : Int32)).toNatClampNeg) := inb_of Sz6 ⟨by decide, by decide⟩
  obtain ⟨T7, h7, X7, e7, W7, st7⟩ := stC X4 hx hZ e4 Ar6 (j := (1 : Int32)) hin6 (g := (mkF m 21 #[.val (.int p0), .val (.int p1), .val (.int p2), .val (.ref b1), .unset, .unset, .unset, .unset, .unset, .unset] [(.int ((p1 &&& (255 : Int32)).toUInt32.toUInt16.toUInt32.toInt32)), (.int (1 : Int32)), (.ref b1)])) rfl rfl (hb hby at_21)
  have V7 : Arv Z h7 b1 k1 .char (2 : Int32) [(.int (nar .char ((p0 &&& (255 : Int32)).toUInt32.toUInt16.toUInt32.toInt32))), (.int (nar .char ((p1 &&& (255 : Int32)).toUInt32.toUInt16.toUInt32.toInt32)))] (.int (0 : Int32)) := Arv.set Ar6 q6 Sz6 Nn6 Hh6 Gg6 (fits_nar_char _) W7 1 rfl (Nat.le_of_ble_eq_true rfl)
  have K8 : Keep h0 h7 [] := K5.wr W7 (Or.inr B1)
  have N7 := Fr.snoc X7 N4 G1
  refine own_st st7 ?_
  show own_Go p e below T7 (mkF m 22 #[.val (.int p0), .val (.int p1), .val (.int p2), .val (.ref b1), .unset, .unset, .unset, .unset, .unset, .unset] []) _
  have f9 := (Nat.le_trans (Nat.le_trans (Nat.le_trans Z0 E1.1) (Keep.of_wr W4).1) (Keep.of_wr W7).1)
  obtain ⟨T10, h10, X10, e10, E10, A10, D10, -, st10⟩ := newO X7 hx hZ hown (hw _ (List.mem_of_getElem? (i := 1) rfl)) (hw _ (List.mem_of_getElem? (i := 2) rfl)) (hw _ (List.mem_of_getElem? (i := 3) rfl)) e7 (g := (mkF m 22 #[.val (.int p0), .val (.int p1), .val (.int p2), .val (.ref b1), .unset, .unset, .unset, .unset, .unset, .unset] [])) rfl (hb hby at_22) (by decide) (by decide)
  obtain ⟨b10, g10⟩ : ∃ z, z = h7.size := ⟨_, rfl⟩
  rw [← g10] at A10 D10 st10
  have G10 : n0 ≤ b10 := Nat.le_trans f9 (Nat.le_of_eq g10.symm)
  have B10 : h0.size ≤ b10 := Nat.le_trans K8.1 (Nat.le_of_eq g10.symm)
  have K11 : Keep h0 h10 [] := K8.ext E10
  have D10_coder : Fld Z h10 b10 "java/lang/String" "coder" "B" (.int (0 : Int32)) := D10 (Or.inr (hw _ (List.mem_of_getElem? (i := 27) rfl))) (ty := .byte) (by decide)
  have D10_value : Fld Z h10 b10 "java/lang/String" "value" "[B" .null := D10 (Or.inr (hw _ (List.mem_of_getElem? (i := 29) rfl))) (ty := (.array .byte)) (by decide)
  refine own_st st10 ?_
  show own_Go p e below T10 (mkF m 25 #[.val (.int p0), .val (.int p1), .val (.int p2), .val (.ref b1), .unset, .unset, .unset, .unset, .unset, .unset] [(.ref b10)]) _
  refine own_st (fun t k => XS.dup X10.here hx rfl (hb hby at_25) rfl rfl k) ?_
  show own_Go p e below T10 (mkF m 26 #[.val (.int p0), .val (.int p1), .val (.int p2), .val (.ref b1), .unset, .unset, .unset, .unset, .unset, .unset] [(.ref b10), (.ref b10)]) _
  refine own_st (fun t k => XS.aloadN X10.here hx rfl (hb hby at_26) rfl rfl k) ?_
  show own_Go p e below T10 (mkF m 27 #[.val (.int p0), .val (.int p1), .val (.int p2), .val (.ref b1), .unset, .unset, .unset, .unset, .unset, .unset] [(.ref b1), (.ref b10), (.ref b10)]) _
  have hp : ∀ c ∈ ([nar .char ((p0 &&& (255 : Int32)).toUInt32.toUInt16.toUInt32.toInt32), nar .char ((p1 &&& (255 : Int32)).toUInt32.toUInt16.toUInt32.toInt32)] : List Int32), ¬ c < 0 ∧ ¬ (255 : Int32) < c := by
    intro c hc
    rw [own_narc, own_narc] at hc
    simp only [List.mem_cons, List.not_mem_nil, or_false] at hc
    rcases hc with rfl | rfl
    · exact own_in255 _ (own_m255 p0).1 (own_m255 p0).2
    · exact own_in255 _ (own_m255 p1).1 (own_m255 p1).2
  have f12 := (Nat.le_trans f9 E10.1)
  have f13 := (V7.ext E10)
  have f14 := ((((pO.ext E1).wr W4 G1).wr W7 G1).ext E10)
  obtain ⟨_, _, ⟨T15, L15, k15, n15⟩, -, X15, ⟨Lc15, hQ15, l15, y15, z15⟩, st15⟩ := X10.specialBack hx (y := (⟨"java/lang/String", "<init>", "([C)V"⟩ : MethodName)) rfl hown (mvT hZ (hw _ (List.mem_of_getElem? (i := 4) rfl))) (mvT hZ (hw _ (List.mem_of_getElem? (i := 5) rfl))) (mvT hZ (hw _ (List.mem_of_getElem? (i := 6) rfl))) (by decide) (StrChars.Road.backV (W := 1) hZ hws (kI := 4) (hw _ (List.mem_of_getElem? (i := 2) rfl)) (cs := ([nar .char ((p0 &&& (255 : Int32)).toUInt32.toUInt16.toUInt32.toInt32), nar .char ((p1 &&& (255 : Int32)).toUInt32.toUInt16.toUInt32.toInt32)] : List Int32)) (bs := (([nar .char ((p0 &&& (255 : Int32)).toUInt32.toUInt16.toUInt32.toInt32), nar .char ((p1 &&& (255 : Int32)).toUInt32.toUInt16.toUInt32.toInt32)] : List Int32)).map (fun c => c.toInt8.toInt32)) (n := 2) G10 f12 A10 D10_value D10_coder f13 (pS_COMPACT_STRINGS.ext f14.2) pP5 rfl rfl (by decide) (by decide) hp rfl (by decide) (by decide)) (g := (mkF m 27 #[.val (.int p0), .val (.int p1), .val (.int p2), .val (.ref b1), .unset, .unset, .unset, .unset, .unset, .unset] [(.ref b1), (.ref b10), (.ref b10)])) rfl (by rw [hml]; rfl) (Steps.refl _) (a := b10) (argsL := [(.ref b1)]) (rest := [(.ref b10)]) (lenOf pd___C_V rfl) rfl (by show 2 * 0 + _ ≤ _; exact Nat.le_of_eq rfl) (hb hby at_27) (fun _ _ => ⟨rfl, e10, (by decide : 2 + 1 ≤ _), (by decide : 6 + 2 ≤ _)⟩)
  dsimp only [Pt.U, Pt.locs, Pt.cells, Pt.slots] at X15 l15 y15 z15 st15 hQ15
  subst l15 y15 z15
  obtain ⟨rfl, Nq15, Kq15, q15_E, q15_c, t15, kb15, q15_g, q15_b, q15_n, q15_v, q15_V⟩ := hQ15
  have N15 := Fr.app N7 Nq15
  have K16 : Keep h0 T15.heap [] := K11.trans Kq15 (allS (Or.inr B10) all0)
  have Bf17 : h0.size ≤ t15 := Nat.le_trans K11.1 q15_b
  refine own_tr st15 ?_
  show own_Go p e below T15 (mkF m 30 #[.val (.int p0), .val (.int p1), .val (.int p2), .val (.ref b1), .unset, .unset, .unset, .unset, .unset, .unset] [(.ref b10)]) _
  refine own_st (fun t k => XS.astore X15.here hx rfl (hb hby at_30) rfl rfl (l' := #[.val (.int p0), .val (.int p1), .val (.int p2), .val (.ref b1), .val (.ref b10), .unset, .unset, .unset, .unset, .unset]) rfl k) ?_
  show own_Go p e below T15 (mkF m 32 #[.val (.int p0), .val (.int p1), .val (.int p2), .val (.ref b1), .val (.ref b10), .unset, .unset, .unset, .unset, .unset] []) _
  have f18 := (Nat.le_trans f12 Kq15.1)
  obtain ⟨T19, h19, X19, e19, E19, A19, D19, -, st19⟩ := newO X15 hx hZ hown (hw _ (List.mem_of_getElem? (i := 30) rfl)) (hw _ (List.mem_of_getElem? (i := 31) rfl)) (hw _ (List.mem_of_getElem? (i := 32) rfl)) rfl (g := (mkF m 32 #[.val (.int p0), .val (.int p1), .val (.int p2), .val (.ref b1), .val (.ref b10), .unset, .unset, .unset, .unset, .unset] [])) rfl (hb hby at_32) (by decide) (by decide)
  obtain ⟨b19, g19⟩ : ∃ z, z = T15.heap.size := ⟨_, rfl⟩
  rw [← g19] at A19 D19 st19
  have G19 : n0 ≤ b19 := Nat.le_trans f18 (Nat.le_of_eq g19.symm)
  have B19 : h0.size ≤ b19 := Nat.le_trans K16.1 (Nat.le_of_eq g19.symm)
  have K20 : Keep h0 h19 [] := K16.ext E19
  have D19_methods : Fld Z h19 b19 "com/example/phlow/phlow/policy/PolicyClass" "methods" "Ljava/util/Map;" .null := D19 (Or.inr (hw _ (List.mem_of_getElem? (i := 64) rfl))) (ty := (.object "java/util/Map")) (by decide)
  have D19_attributes : Fld Z h19 b19 "com/example/phlow/phlow/policy/PolicyClass" "attributes" "Ljava/util/Map;" .null := D19 (Or.inr (hw _ (List.mem_of_getElem? (i := 66) rfl))) (ty := (.object "java/util/Map")) (by decide)
  have D19_name : Fld Z h19 b19 "com/example/phlow/phlow/policy/PolicyClass" "name" "Ljava/lang/String;" .null := D19 (Or.inr (hw _ (List.mem_of_getElem? (i := 68) rfl))) (ty := (.object "java/lang/String")) (by decide)
  have D19_foreign : Fld Z h19 b19 "com/example/phlow/phlow/policy/PolicyClass" "foreign" "Z" (.int (0 : Int32)) := D19 (Or.inl (hw _ (List.mem_of_getElem? (i := 75) rfl))) (ty := .boolean) (by decide)
  refine own_st st19 ?_
  show own_Go p e below T19 (mkF m 35 #[.val (.int p0), .val (.int p1), .val (.int p2), .val (.ref b1), .val (.ref b10), .unset, .unset, .unset, .unset, .unset] [(.ref b19)]) _
  refine own_st (fun t k => XS.dup X19.here hx rfl (hb hby at_35) rfl rfl k) ?_
  show own_Go p e below T19 (mkF m 36 #[.val (.int p0), .val (.int p1), .val (.int p2), .val (.ref b1), .val (.ref b10), .unset, .unset, .unset, .unset, .unset] [(.ref b19), (.ref b19)]) _
  refine own_st (fun t k => XS.aload X19.here hx rfl (hb hby at_36) rfl rfl k) ?_
  show own_Go p e below T19 (mkF m 38 #[.val (.int p0), .val (.int p1), .val (.int p2), .val (.ref b1), .val (.ref b10), .unset, .unset, .unset, .unset, .unset] [(.ref b10), (.ref b19), (.ref b19)]) _
  have f21 := (Nat.le_trans f18 E19.1)
  obtain ⟨_, _, ⟨T22, L22, k22, n22⟩, -, X22, ⟨Lc22, hQ22, l22, y22, z22⟩, st22⟩ := X19.specialBack hx (y := (⟨"com/example/phlow/phlow/policy/PolicyClass", "<init>", "(Ljava/lang/String;)V"⟩ : MethodName)) rfl hown (mvT hZ (hw _ (List.mem_of_getElem? (i := 33) rfl))) (mvT hZ (hw _ (List.mem_of_getElem? (i := 34) rfl))) (mvT hZ (hw _ (List.mem_of_getElem? (i := 35) rfl))) (by decide) (backOf (W := 1) (rmPC l Z a0 hw [] b19 b10 .null .null .null ((0 : Int32)) h19 n0 f21 A19 D19_methods D19_attributes D19_name D19_foreign G19) hZ (hw _ (List.mem_of_getElem? (i := 35) rfl)) (hw _ (List.mem_of_getElem? (i := 32) rfl)) (by decide) (by decide)) (g := (mkF m 38 #[.val (.int p0), .val (.int p1), .val (.int p2), .val (.ref b1), .val (.ref b10), .unset, .unset, .unset, .unset, .unset] [(.ref b10), (.ref b19), (.ref b19)])) rfl (by rw [hml]; rfl) (Steps.refl _) (a := b19) (argsL := [(.ref b10)]) (rest := [(.ref b19)]) (lenOf pd__Ljava_lang_String__V rfl) rfl (by show 2 * 0 + _ ≤ _; exact Nat.le_of_eq rfl) (hb hby at_38) (fun _ _ => ⟨rfl, e19, (by decide : 4 + 2 ≤ _), (by decide : 12 + 24 ≤ _)⟩)
  dsimp only [Pt.U, Pt.locs, Pt.cells, Pt.slots] at X22 l22 y22 z22 st22 hQ22
  subst l22 y22 z22
  obtain ⟨rfl, Nq22, Kq22, q22_0, q22_1⟩ := hQ22
  have N22 := Fr.app N15 Nq22
  have K23 : Keep h0 T22.heap [] := K20.trans Kq22 (allS (Or.inr B19) all0)
  refine own_tr st22 ?_
  show own_Go p e below T22 (mkF m 41 #[.val (.int p0), .val (.int p1), .val (.int p2), .val (.ref b1), .val (.ref b10), .unset, .unset, .unset, .unset, .unset] [(.ref b19)]) _
  refine own_st (fun t k => XS.astore X22.here hx rfl (hb hby at_41) rfl rfl (l' := #[.val (.int p0), .val (.int p1), .val (.int p2), .val (.ref b1), .val (.ref b10), .val (.ref b19), .unset, .unset, .unset, .unset]) rfl k) ?_
  show own_Go p e below T22 (mkF m 43 #[.val (.int p0), .val (.int p1), .val (.int p2), .val (.ref b1), .val (.ref b10), .val (.ref b19), .unset, .unset, .unset, .unset] []) _
  refine own_st (fun t k => XS.aload X22.here hx rfl (hb hby at_43) rfl rfl k) ?_
  show own_Go p e below T22 (mkF m 45 #[.val (.int p0), .val (.int p1), .val (.int p2), .val (.ref b1), .val (.ref b10), .val (.ref b19), .unset, .unset, .unset, .unset] [(.ref b19)]) _
  have f24 := (Nat.le_trans f21 Kq22.1)
  have f26 := (A19.keep Kq22)
  obtain ⟨cq25, kq25, qa25, qb25, qc25⟩ := isOf hZ rfl f26
  obtain ⟨_, _, ⟨T25, L25, k25, n25⟩, -, X25, ⟨Lc25, hQ25, l25, y25, z25⟩, st25⟩ := X22.virtualBack hx (y := (⟨"com/example/phlow/phlow/policy/PolicyClass", "isForeign", "()Z"⟩ : MethodName)) (z := (⟨"com/example/phlow/phlow/policy/PolicyClass", "isForeign", "()Z"⟩ : MethodName)) hown (mvT hZ (hw _ (List.mem_of_getElem? (i := 69) rfl))) (mvT hZ (hw _ (List.mem_of_getElem? (i := 70) rfl))) (notFace_of_selects (args := #[]) (mvT hZ (hw _ (List.mem_of_getElem? (i := 72) rfl)))) (mvT hZ (hw _ (List.mem_of_getElem? (i := 72) rfl))) (mvT hZ (hw _ (List.mem_of_getElem? (i := 71) rfl))) (by decide) (backOf (W := 0) (rmIF l Z a0 hw [] b19 ((0 : Int32)) T22.heap n0 f24 q22_1 (by decide)) hZ (hw _ (List.mem_of_getElem? (i := 73) rfl)) (hw _ (List.mem_of_getElem? (i := 32) rfl)) (by decide) (by decide)) qa25 qc25 (g := (mkF m 45 #[.val (.int p0), .val (.int p1), .val (.int p2), .val (.ref b1), .val (.ref b10), .val (.ref b19), .unset, .unset, .unset, .unset] [(.ref b19)])) rfl (by rw [hml]; rfl) (Steps.refl _) (argsL := []) (rest := []) (lenOf pd___Z rfl) rfl (by show 2 * 0 + _ ≤ _; exact Nat.le_of_eq rfl) (hb hby at_45) (fun _ _ => ⟨rfl, rfl, (by decide : 6 + 0 ≤ _), (by decide : 36 + 0 ≤ _)⟩)
  dsimp only [Pt.U, Pt.locs, Pt.cells, Pt.slots] at X25 l25 y25 z25 st25 hQ25
  subst l25 y25 z25
  obtain ⟨rfl, Nq25, eH25⟩ := hQ25
  have N25 := Fr.app N22 Nq25
  refine own_tr st25 ?_
  show own_Go p e below T25 (mkF m 48 #[.val (.int p0), .val (.int p1), .val (.int p2), .val (.ref b1), .val (.ref b10), .val (.ref b19), .unset, .unset, .unset, .unset] [(.int (0 : Int32))]) _
  refine own_st (fun t k => XS.ifNo X25.here hx rfl (hb hby at_48) rfl (by decide) k) ?_
  show own_Go p e below T25 (mkF m 51 #[.val (.int p0), .val (.int p1), .val (.int p2), .val (.ref b1), .val (.ref b10), .val (.ref b19), .unset, .unset, .unset, .unset] []) _
  refine own_st (fun t k => XS.iconst X25.here hx rfl (hb hby at_51) k) ?_
  show own_Go p e below T25 (mkF m 52 #[.val (.int p0), .val (.int p1), .val (.int p2), .val (.ref b1), .val (.ref b10), .val (.ref b19), .unset, .unset, .unset, .unset] [(.int (1 : Int32))]) _
  refine own_st (fun t k => XS.goto X25.here hx rfl (pc0 := 52) (pc' := 56) rfl (hb hby at_52) (by decide) (by decide) k) ?_
  show own_Go p e below T25 (mkF m 56 #[.val (.int p0), .val (.int p1), .val (.int p2), .val (.ref b1), .val (.ref b10), .val (.ref b19), .unset, .unset, .unset, .unset] [(.int (1 : Int32))]) _
  refine own_st (fun t k => XS.istore X25.here hx rfl (hb hby at_56) rfl (l' := #[.val (.int p0), .val (.int p1), .val (.int p2), .val (.ref b1), .val (.ref b10), .val (.ref b19), .val (.int (1 : Int32)), .unset, .unset, .unset]) rfl k) ?_
  show own_Go p e below T25 (mkF m 58 #[.val (.int p0), .val (.int p1), .val (.int p2), .val (.ref b1), .val (.ref b10), .val (.ref b19), .val (.int (1 : Int32)), .unset, .unset, .unset] []) _
  refine own_st (fun t k => XS.iloadN X25.here hx rfl (hb hby at_58) rfl k) ?_
  show own_Go p e below T25 (mkF m 59 #[.val (.int p0), .val (.int p1), .val (.int p2), .val (.ref b1), .val (.ref b10), .val (.ref b19), .val (.int (1 : Int32)), .unset, .unset, .unset] [(.int p2)]) _
  refine own_st (fun t k => XS.iconst X25.here hx rfl (hb hby at_59) k) ?_
  show own_Go p e below T25 (mkF m 60 #[.val (.int p0), .val (.int p1), .val (.int p2), .val (.ref b1), .val (.ref b10), .val (.ref b19), .val (.int (1 : Int32)), .unset, .unset, .unset] [(.int (3 : Int32)), (.int p2)]) _
  refine own_st (fun t k => XS.iand X25.here hx rfl (hb hby at_60) rfl k) ?_
  show own_Go p e below T25 (mkF m 61 #[.val (.int p0), .val (.int p1), .val (.int p2), .val (.ref b1), .val (.ref b10), .val (.ref b19), .val (.int (1 : Int32)), .unset, .unset, .unset] [(.int (p2 &&& (3 : Int32)))]) _
  rw [hpre]
  show own_Go p e below T25 (mkF m 61 #[.val (.int p0), .val (.int p1), .val (.int p2), .val (.ref b1), .val (.ref b10), .val (.ref b19), .val (.int (1 : Int32)), .unset, .unset, .unset] [(.int (3 : Int32))]) _
  refine own_st (fun t k => XS.istore X25.here hx rfl (hb hby at_61) rfl (l' := #[.val (.int p0), .val (.int p1), .val (.int p2), .val (.ref b1), .val (.ref b10), .val (.ref b19), .val (.int (1 : Int32)), .val (.int (3 : Int32)), .unset, .unset]) rfl k) ?_
  show own_Go p e below T25 (mkF m 63 #[.val (.int p0), .val (.int p1), .val (.int p2), .val (.ref b1), .val (.ref b10), .val (.ref b19), .val (.int (1 : Int32)), .val (.int (3 : Int32)), .unset, .unset] []) _
  refine own_st (fun t k => XS.iload X25.here hx rfl (hb hby at_63) rfl k) ?_
  show own_Go p e below T25 (mkF m 65 #[.val (.int p0), .val (.int p1), .val (.int p2), .val (.ref b1), .val (.ref b10), .val (.ref b19), .val (.int (1 : Int32)), .val (.int (3 : Int32)), .unset, .unset] [(.int (3 : Int32))]) _
  refine own_st (fun t k => XS.iconst X25.here hx rfl (hb hby at_65) k) ?_
  show own_Go p e below T25 (mkF m 66 #[.val (.int p0), .val (.int p1), .val (.int p2), .val (.ref b1), .val (.ref b10), .val (.ref b19), .val (.int (1 : Int32)), .val (.int (3 : Int32)), .unset, .unset] [(.int (1 : Int32)), (.int (3 : Int32))]) _
  refine own_st (fun t k => XS.icmpNo X25.here hx rfl (hb hby at_66) rfl (by decide) k) ?_
  show own_Go p e below T25 (mkF m 69 #[.val (.int p0), .val (.int p1), .val (.int p2), .val (.ref b1), .val (.ref b10), .val (.ref b19), .val (.int (1 : Int32)), .val (.int (3 : Int32)), .unset, .unset] []) _
  refine own_st (fun t k => XS.iload X25.here hx rfl (hb hby at_69) rfl k) ?_
  show own_Go p e below T25 (mkF m 71 #[.val (.int p0), .val (.int p1), .val (.int p2), .val (.ref b1), .val (.ref b10), .val (.ref b19), .val (.int (1 : Int32)), .val (.int (3 : Int32)), .unset, .unset] [(.int (1 : Int32))]) _
  refine own_st (fun t k => XS.aload X25.here hx rfl (hb hby at_71) rfl rfl k) ?_
  show own_Go p e below T25 (mkF m 73 #[.val (.int p0), .val (.int p1), .val (.int p2), .val (.ref b1), .val (.ref b10), .val (.ref b19), .val (.int (1 : Int32)), .val (.int (3 : Int32)), .unset, .unset] [(.ref b19), (.int (1 : Int32))]) _
  obtain ⟨cq27, kq27, qa27, qb27, qc27⟩ := isOf hZ eH25 f26
  obtain ⟨_, _, ⟨T27, L27, k27, n27⟩, -, X27, ⟨Lc27, hQ27, l27, y27, z27⟩, st27⟩ := X25.virtualBack hx (y := (⟨"com/example/phlow/phlow/policy/PolicyClass", "markForeign", "()Z"⟩ : MethodName)) (z := (⟨"com/example/phlow/phlow/policy/PolicyClass", "markForeign", "()Z"⟩ : MethodName)) hown (mvT hZ (hw _ (List.mem_of_getElem? (i := 76) rfl))) (mvT hZ (hw _ (List.mem_of_getElem? (i := 77) rfl))) (notFace_of_selects (args := #[]) (mvT hZ (hw _ (List.mem_of_getElem? (i := 79) rfl)))) (mvT hZ (hw _ (List.mem_of_getElem? (i := 79) rfl))) (mvT hZ (hw _ (List.mem_of_getElem? (i := 78) rfl))) (by decide) (backOf (W := 1) (rmMF0 l Z a0 hw [] b19 b10 T22.heap n0 f24 f26 q22_1 q22_0 G19) hZ (hw _ (List.mem_of_getElem? (i := 80) rfl)) (hw _ (List.mem_of_getElem? (i := 32) rfl)) (by decide) (by decide)) qa27 qc27 (g := (mkF m 73 #[.val (.int p0), .val (.int p1), .val (.int p2), .val (.ref b1), .val (.ref b10), .val (.ref b19), .val (.int (1 : Int32)), .val (.int (3 : Int32)), .unset, .unset] [(.ref b19), (.int (1 : Int32))])) rfl (by rw [hml]; rfl) (Steps.refl _) (argsL := []) (rest := [(.int (1 : Int32))]) (lenOf pd___Z rfl) rfl (by show 2 * 0 + _ ≤ _; exact Nat.le_of_eq rfl) (hb hby at_73) (fun _ _ => ⟨rfl, eH25, (by decide : 6 + 0 ≤ _), (by decide : 36 + 0 ≤ _)⟩)
  dsimp only [Pt.U, Pt.locs, Pt.cells, Pt.slots] at X27 l27 y27 z27 st27 hQ27
  subst l27 y27 z27
  obtain ⟨rfl, Nq27, Kq27, q27_0, q27_1⟩ := hQ27
  have N27 := Fr.app N25 Nq27
  have K28 : Keep h0 T27.heap [] := K23.trans Kq27 (allS (Or.inr B19) all0)
  refine own_tr st27 ?_
  show own_Go p e below T27 (mkF m 76 #[.val (.int p0), .val (.int p1), .val (.int p2), .val (.ref b1), .val (.ref b10), .val (.ref b19), .val (.int (1 : Int32)), .val (.int (3 : Int32)), .unset, .unset] [(.int (1 : Int32)), (.int (1 : Int32))]) _
  refine own_st (fun t k => XS.iand X27.here hx rfl (hb hby at_76) rfl k) ?_
  show own_Go p e below T27 (mkF m 77 #[.val (.int p0), .val (.int p1), .val (.int p2), .val (.ref b1), .val (.ref b10), .val (.ref b19), .val (.int (1 : Int32)), .val (.int (3 : Int32)), .unset, .unset] [(.int (1 : Int32))]) _
  refine own_st (fun t k => XS.istore X27.here hx rfl (hb hby at_77) rfl (l' := #[.val (.int p0), .val (.int p1), .val (.int p2), .val (.ref b1), .val (.ref b10), .val (.ref b19), .val (.int (1 : Int32)), .val (.int (3 : Int32)), .unset, .unset]) rfl k) ?_
  show own_Go p e below T27 (mkF m 79 #[.val (.int p0), .val (.int p1), .val (.int p2), .val (.ref b1), .val (.ref b10), .val (.ref b19), .val (.int (1 : Int32)), .val (.int (3 : Int32)), .unset, .unset] []) _
  refine own_st (fun t k => XS.iload X27.here hx rfl (hb hby at_79) rfl k) ?_
  show own_Go p e below T27 (mkF m 81 #[.val (.int p0), .val (.int p1), .val (.int p2), .val (.ref b1), .val (.ref b10), .val (.ref b19), .val (.int (1 : Int32)), .val (.int (3 : Int32)), .unset, .unset] [(.int (3 : Int32))]) _
  refine own_st (fun t k => XS.iconst X27.here hx rfl (hb hby at_81) k) ?_
  show own_Go p e below T27 (mkF m 82 #[.val (.int p0), .val (.int p1), .val (.int p2), .val (.ref b1), .val (.ref b10), .val (.ref b19), .val (.int (1 : Int32)), .val (.int (3 : Int32)), .unset, .unset] [(.int (2 : Int32)), (.int (3 : Int32))]) _
  refine own_st (fun t k => XS.icmpNo X27.here hx rfl (hb hby at_82) rfl (by decide) k) ?_
  show own_Go p e below T27 (mkF m 85 #[.val (.int p0), .val (.int p1), .val (.int p2), .val (.ref b1), .val (.ref b10), .val (.ref b19), .val (.int (1 : Int32)), .val (.int (3 : Int32)), .unset, .unset] []) _
  refine own_st (fun t k => XS.iload X27.here hx rfl (hb hby at_85) rfl k) ?_
  show own_Go p e below T27 (mkF m 87 #[.val (.int p0), .val (.int p1), .val (.int p2), .val (.ref b1), .val (.ref b10), .val (.ref b19), .val (.int (1 : Int32)), .val (.int (3 : Int32)), .unset, .unset] [(.int (1 : Int32))]) _
  refine own_st (fun t k => XS.aload X27.here hx rfl (hb hby at_87) rfl rfl k) ?_
  show own_Go p e below T27 (mkF m 89 #[.val (.int p0), .val (.int p1), .val (.int p2), .val (.ref b1), .val (.ref b10), .val (.ref b19), .val (.int (1 : Int32)), .val (.int (3 : Int32)), .unset, .unset] [(.ref b19), (.int (1 : Int32))]) _
  have f29 := (Nat.le_trans f24 Kq27.1)
  have f30 := (f26.keep Kq27)
  obtain ⟨cq31, kq31, qa31, qb31, qc31⟩ := isOf hZ rfl f30
  obtain ⟨_, _, ⟨T31, L31, k31, n31⟩, -, X31, ⟨Lc31, hQ31, l31, y31, z31⟩, st31⟩ := X27.virtualBack hx (y := (⟨"com/example/phlow/phlow/policy/PolicyClass", "markForeign", "()Z"⟩ : MethodName)) (z := (⟨"com/example/phlow/phlow/policy/PolicyClass", "markForeign", "()Z"⟩ : MethodName)) hown (mvT hZ (hw _ (List.mem_of_getElem? (i := 76) rfl))) (mvT hZ (hw _ (List.mem_of_getElem? (i := 77) rfl))) (notFace_of_selects (args := #[]) (mvT hZ (hw _ (List.mem_of_getElem? (i := 79) rfl)))) (mvT hZ (hw _ (List.mem_of_getElem? (i := 79) rfl))) (mvT hZ (hw _ (List.mem_of_getElem? (i := 78) rfl))) (by decide) (backOf (W := 1) (rmMF1 l Z a0 hw [] b19 b10 T27.heap n0 f29 f30 q27_0 q27_1 G19) hZ (hw _ (List.mem_of_getElem? (i := 80) rfl)) (hw _ (List.mem_of_getElem? (i := 32) rfl)) (by decide) (by decide)) qa31 qc31 (g := (mkF m 89 #[.val (.int p0), .val (.int p1), .val (.int p2), .val (.ref b1), .val (.ref b10), .val (.ref b19), .val (.int (1 : Int32)), .val (.int (3 : Int32)), .unset, .unset] [(.ref b19), (.int (1 : Int32))])) rfl (by rw [hml]; rfl) (Steps.refl _) (argsL := []) (rest := [(.int (1 : Int32))]) (lenOf pd___Z rfl) rfl (by show 2 * 0 + _ ≤ _; exact Nat.le_of_eq rfl) (hb hby at_89) (fun _ _ => ⟨rfl, rfl, (by decide : 6 + 0 ≤ _), (by decide : 36 + 0 ≤ _)⟩)
  dsimp only [Pt.U, Pt.locs, Pt.cells, Pt.slots] at X31 l31 y31 z31 st31 hQ31
  subst l31 y31 z31
  obtain ⟨rfl, Nq31, Kq31, q31_0, q31_1⟩ := hQ31
  have N31 := Fr.app N27 Nq31
  have K32 : Keep h0 T31.heap [] := K28.trans Kq31 (allS (Or.inr B19) all0)
  refine own_tr st31 ?_
  show own_Go p e below T31 (mkF m 92 #[.val (.int p0), .val (.int p1), .val (.int p2), .val (.ref b1), .val (.ref b10), .val (.ref b19), .val (.int (1 : Int32)), .val (.int (3 : Int32)), .unset, .unset] [(.int (0 : Int32)), (.int (1 : Int32))]) _
  refine own_st (fun t k => XS.ifNo X31.here hx rfl (hb hby at_92) rfl (by decide) k) ?_
  show own_Go p e below T31 (mkF m 95 #[.val (.int p0), .val (.int p1), .val (.int p2), .val (.ref b1), .val (.ref b10), .val (.ref b19), .val (.int (1 : Int32)), .val (.int (3 : Int32)), .unset, .unset] [(.int (1 : Int32))]) _
  refine own_st (fun t k => XS.iconst X31.here hx rfl (hb hby at_95) k) ?_
  show own_Go p e below T31 (mkF m 96 #[.val (.int p0), .val (.int p1), .val (.int p2), .val (.ref b1), .val (.ref b10), .val (.ref b19), .val (.int (1 : Int32)), .val (.int (3 : Int32)), .unset, .unset] [(.int (1 : Int32)), (.int (1 : Int32))]) _
  refine own_st (fun t k => XS.goto X31.here hx rfl (pc0 := 96) (pc' := 100) rfl (hb hby at_96) (by decide) (by decide) k) ?_
  show own_Go p e below T31 (mkF m 100 #[.val (.int p0), .val (.int p1), .val (.int p2), .val (.ref b1), .val (.ref b10), .val (.ref b19), .val (.int (1 : Int32)), .val (.int (3 : Int32)), .unset, .unset] [(.int (1 : Int32)), (.int (1 : Int32))]) _
  refine own_st (fun t k => XS.iand X31.here hx rfl (hb hby at_100) rfl k) ?_
  show own_Go p e below T31 (mkF m 101 #[.val (.int p0), .val (.int p1), .val (.int p2), .val (.ref b1), .val (.ref b10), .val (.ref b19), .val (.int (1 : Int32)), .val (.int (3 : Int32)), .unset, .unset] [(.int (1 : Int32))]) _
  refine own_st (fun t k => XS.istore X31.here hx rfl (hb hby at_101) rfl (l' := #[.val (.int p0), .val (.int p1), .val (.int p2), .val (.ref b1), .val (.ref b10), .val (.ref b19), .val (.int (1 : Int32)), .val (.int (3 : Int32)), .unset, .unset]) rfl k) ?_
  show own_Go p e below T31 (mkF m 103 #[.val (.int p0), .val (.int p1), .val (.int p2), .val (.ref b1), .val (.ref b10), .val (.ref b19), .val (.int (1 : Int32)), .val (.int (3 : Int32)), .unset, .unset] []) _
  refine own_st (fun t k => XS.iload X31.here hx rfl (hb hby at_103) rfl k) ?_
  show own_Go p e below T31 (mkF m 105 #[.val (.int p0), .val (.int p1), .val (.int p2), .val (.ref b1), .val (.ref b10), .val (.ref b19), .val (.int (1 : Int32)), .val (.int (3 : Int32)), .unset, .unset] [(.int (3 : Int32))]) _
  refine own_st (fun t k => XS.iconst X31.here hx rfl (hb hby at_105) k) ?_
  show own_Go p e below T31 (mkF m 106 #[.val (.int p0), .val (.int p1), .val (.int p2), .val (.ref b1), .val (.ref b10), .val (.ref b19), .val (.int (1 : Int32)), .val (.int (3 : Int32)), .unset, .unset] [(.int (3 : Int32)), (.int (3 : Int32))]) _
  refine own_st (fun t k => XS.icmpNo X31.here hx rfl (hb hby at_106) rfl (by decide) k) ?_
  show own_Go p e below T31 (mkF m 109 #[.val (.int p0), .val (.int p1), .val (.int p2), .val (.ref b1), .val (.ref b10), .val (.ref b19), .val (.int (1 : Int32)), .val (.int (3 : Int32)), .unset, .unset] []) _
  refine own_st (fun t k => XS.iload X31.here hx rfl (hb hby at_109) rfl k) ?_
  show own_Go p e below T31 (mkF m 111 #[.val (.int p0), .val (.int p1), .val (.int p2), .val (.ref b1), .val (.ref b10), .val (.ref b19), .val (.int (1 : Int32)), .val (.int (3 : Int32)), .unset, .unset] [(.int (1 : Int32))]) _
  refine own_st (fun t k => XS.aload X31.here hx rfl (hb hby at_111) rfl rfl k) ?_
  show own_Go p e below T31 (mkF m 113 #[.val (.int p0), .val (.int p1), .val (.int p2), .val (.ref b1), .val (.ref b10), .val (.ref b19), .val (.int (1 : Int32)), .val (.int (3 : Int32)), .unset, .unset] [(.ref b19), (.int (1 : Int32))]) _
  have f33 := (Nat.le_trans f29 Kq31.1)
  have f34 := (f30.keep Kq31)
  obtain ⟨cq35, kq35, qa35, qb35, qc35⟩ := isOf hZ rfl f34
  obtain ⟨_, _, ⟨T35, L35, k35, n35⟩, -, X35, ⟨Lc35, hQ35, l35, y35, z35⟩, st35⟩ := X31.virtualBack hx (y := (⟨"com/example/phlow/phlow/policy/PolicyClass", "markForeign", "()Z"⟩ : MethodName)) (z := (⟨"com/example/phlow/phlow/policy/PolicyClass", "markForeign", "()Z"⟩ : MethodName)) hown (mvT hZ (hw _ (List.mem_of_getElem? (i := 76) rfl))) (mvT hZ (hw _ (List.mem_of_getElem? (i := 77) rfl))) (notFace_of_selects (args := #[]) (mvT hZ (hw _ (List.mem_of_getElem? (i := 79) rfl)))) (mvT hZ (hw _ (List.mem_of_getElem? (i := 79) rfl))) (mvT hZ (hw _ (List.mem_of_getElem? (i := 78) rfl))) (by decide) (backOf (W := 1) (rmMF1 l Z a0 hw [] b19 b10 T31.heap n0 f33 f34 q31_0 q31_1 G19) hZ (hw _ (List.mem_of_getElem? (i := 80) rfl)) (hw _ (List.mem_of_getElem? (i := 32) rfl)) (by decide) (by decide)) qa35 qc35 (g := (mkF m 113 #[.val (.int p0), .val (.int p1), .val (.int p2), .val (.ref b1), .val (.ref b10), .val (.ref b19), .val (.int (1 : Int32)), .val (.int (3 : Int32)), .unset, .unset] [(.ref b19), (.int (1 : Int32))])) rfl (by rw [hml]; rfl) (Steps.refl _) (argsL := []) (rest := [(.int (1 : Int32))]) (lenOf pd___Z rfl) rfl (by show 2 * 0 + _ ≤ _; exact Nat.le_of_eq rfl) (hb hby at_113) (fun _ _ => ⟨rfl, rfl, (by decide : 6 + 0 ≤ _), (by decide : 36 + 0 ≤ _)⟩)
  dsimp only [Pt.U, Pt.locs, Pt.cells, Pt.slots] at X35 l35 y35 z35 st35 hQ35
  subst l35 y35 z35
  obtain ⟨rfl, Nq35, Kq35, q35_0, q35_1⟩ := hQ35
  have N35 := Fr.app N31 Nq35
  have K36 : Keep h0 T35.heap [] := K32.trans Kq35 (allS (Or.inr B19) all0)
  refine own_tr st35 ?_
  show own_Go p e below T35 (mkF m 116 #[.val (.int p0), .val (.int p1), .val (.int p2), .val (.ref b1), .val (.ref b10), .val (.ref b19), .val (.int (1 : Int32)), .val (.int (3 : Int32)), .unset, .unset] [(.int (0 : Int32)), (.int (1 : Int32))]) _
  refine own_st (fun t k => XS.ifNo X35.here hx rfl (hb hby at_116) rfl (by decide) k) ?_
  show own_Go p e below T35 (mkF m 119 #[.val (.int p0), .val (.int p1), .val (.int p2), .val (.ref b1), .val (.ref b10), .val (.ref b19), .val (.int (1 : Int32)), .val (.int (3 : Int32)), .unset, .unset] [(.int (1 : Int32))]) _
  refine own_st (fun t k => XS.iconst X35.here hx rfl (hb hby at_119) k) ?_
  show own_Go p e below T35 (mkF m 120 #[.val (.int p0), .val (.int p1), .val (.int p2), .val (.ref b1), .val (.ref b10), .val (.ref b19), .val (.int (1 : Int32)), .val (.int (3 : Int32)), .unset, .unset] [(.int (1 : Int32)), (.int (1 : Int32))]) _
  refine own_st (fun t k => XS.goto X35.here hx rfl (pc0 := 120) (pc' := 124) rfl (hb hby at_120) (by decide) (by decide) k) ?_
  show own_Go p e below T35 (mkF m 124 #[.val (.int p0), .val (.int p1), .val (.int p2), .val (.ref b1), .val (.ref b10), .val (.ref b19), .val (.int (1 : Int32)), .val (.int (3 : Int32)), .unset, .unset] [(.int (1 : Int32)), (.int (1 : Int32))]) _
  refine own_st (fun t k => XS.iand X35.here hx rfl (hb hby at_124) rfl k) ?_
  show own_Go p e below T35 (mkF m 125 #[.val (.int p0), .val (.int p1), .val (.int p2), .val (.ref b1), .val (.ref b10), .val (.ref b19), .val (.int (1 : Int32)), .val (.int (3 : Int32)), .unset, .unset] [(.int (1 : Int32))]) _
  refine own_st (fun t k => XS.istore X35.here hx rfl (hb hby at_125) rfl (l' := #[.val (.int p0), .val (.int p1), .val (.int p2), .val (.ref b1), .val (.ref b10), .val (.ref b19), .val (.int (1 : Int32)), .val (.int (3 : Int32)), .unset, .unset]) rfl k) ?_
  show own_Go p e below T35 (mkF m 127 #[.val (.int p0), .val (.int p1), .val (.int p2), .val (.ref b1), .val (.ref b10), .val (.ref b19), .val (.int (1 : Int32)), .val (.int (3 : Int32)), .unset, .unset] []) _
  refine own_st (fun t k => XS.aload X35.here hx rfl (hb hby at_127) rfl rfl k) ?_
  show own_Go p e below T35 (mkF m 129 #[.val (.int p0), .val (.int p1), .val (.int p2), .val (.ref b1), .val (.ref b10), .val (.ref b19), .val (.int (1 : Int32)), .val (.int (3 : Int32)), .unset, .unset] [(.ref b19)]) _
  have f37 := (Nat.le_trans f33 Kq35.1)
  have f39 := (f34.keep Kq35)
  obtain ⟨cq38, kq38, qa38, qb38, qc38⟩ := isOf hZ rfl f39
  obtain ⟨_, _, ⟨T38, L38, k38, n38⟩, -, X38, ⟨Lc38, hQ38, l38, y38, z38⟩, st38⟩ := X35.virtualBack hx (y := (⟨"com/example/phlow/phlow/policy/PolicyClass", "isForeign", "()Z"⟩ : MethodName)) (z := (⟨"com/example/phlow/phlow/policy/PolicyClass", "isForeign", "()Z"⟩ : MethodName)) hown (mvT hZ (hw _ (List.mem_of_getElem? (i := 69) rfl))) (mvT hZ (hw _ (List.mem_of_getElem? (i := 70) rfl))) (notFace_of_selects (args := #[]) (mvT hZ (hw _ (List.mem_of_getElem? (i := 72) rfl)))) (mvT hZ (hw _ (List.mem_of_getElem? (i := 72) rfl))) (mvT hZ (hw _ (List.mem_of_getElem? (i := 71) rfl))) (by decide) (backOf (W := 0) (rmIF l Z a0 hw [] b19 ((1 : Int32)) T35.heap n0 f37 q35_0 (by decide)) hZ (hw _ (List.mem_of_getElem? (i := 73) rfl)) (hw _ (List.mem_of_getElem? (i := 32) rfl)) (by decide) (by decide)) qa38 qc38 (g := (mkF m 129 #[.val (.int p0), .val (.int p1), .val (.int p2), .val (.ref b1), .val (.ref b10), .val (.ref b19), .val (.int (1 : Int32)), .val (.int (3 : Int32)), .unset, .unset] [(.ref b19)])) rfl (by rw [hml]; rfl) (Steps.refl _) (argsL := []) (rest := []) (lenOf pd___Z rfl) rfl (by show 2 * 0 + _ ≤ _; exact Nat.le_of_eq rfl) (hb hby at_129) (fun _ _ => ⟨rfl, rfl, (by decide : 6 + 0 ≤ _), (by decide : 36 + 0 ≤ _)⟩)
  dsimp only [Pt.U, Pt.locs, Pt.cells, Pt.slots] at X38 l38 y38 z38 st38 hQ38
  subst l38 y38 z38
  obtain ⟨rfl, Nq38, eH38⟩ := hQ38
  have N38 := Fr.app N35 Nq38
  refine own_tr st38 ?_
  show own_Go p e below T38 (mkF m 132 #[.val (.int p0), .val (.int p1), .val (.int p2), .val (.ref b1), .val (.ref b10), .val (.ref b19), .val (.int (1 : Int32)), .val (.int (3 : Int32)), .unset, .unset] [(.int (1 : Int32))]) _
  refine own_st (fun t k => XS.istore X38.here hx rfl (hb hby at_132) rfl (l' := #[.val (.int p0), .val (.int p1), .val (.int p2), .val (.ref b1), .val (.ref b10), .val (.ref b19), .val (.int (1 : Int32)), .val (.int (3 : Int32)), .val (.int (1 : Int32)), .unset]) rfl k) ?_
  show own_Go p e below T38 (mkF m 134 #[.val (.int p0), .val (.int p1), .val (.int p2), .val (.ref b1), .val (.ref b10), .val (.ref b19), .val (.int (1 : Int32)), .val (.int (3 : Int32)), .val (.int (1 : Int32)), .unset] []) _
  refine own_st (fun t k => XS.iload X38.here hx rfl (hb hby at_134) rfl k) ?_
  show own_Go p e below T38 (mkF m 136 #[.val (.int p0), .val (.int p1), .val (.int p2), .val (.ref b1), .val (.ref b10), .val (.ref b19), .val (.int (1 : Int32)), .val (.int (3 : Int32)), .val (.int (1 : Int32)), .unset] [(.int (1 : Int32))]) _
  refine own_st (fun t k => XS.iload X38.here hx rfl (hb hby at_136) rfl k) ?_
  show own_Go p e below T38 (mkF m 138 #[.val (.int p0), .val (.int p1), .val (.int p2), .val (.ref b1), .val (.ref b10), .val (.ref b19), .val (.int (1 : Int32)), .val (.int (3 : Int32)), .val (.int (1 : Int32)), .unset] [(.int (1 : Int32)), (.int (1 : Int32))]) _
  refine own_st (fun t k => XS.iload X38.here hx rfl (hb hby at_138) rfl k) ?_
  show own_Go p e below T38 (mkF m 140 #[.val (.int p0), .val (.int p1), .val (.int p2), .val (.ref b1), .val (.ref b10), .val (.ref b19), .val (.int (1 : Int32)), .val (.int (3 : Int32)), .val (.int (1 : Int32)), .unset] [(.int (3 : Int32)), (.int (1 : Int32)), (.int (1 : Int32))]) _
  refine own_st (fun t k => XS.iconst X38.here hx rfl (hb hby at_140) k) ?_
  show own_Go p e below T38 (mkF m 141 #[.val (.int p0), .val (.int p1), .val (.int p2), .val (.ref b1), .val (.ref b10), .val (.ref b19), .val (.int (1 : Int32)), .val (.int (3 : Int32)), .val (.int (1 : Int32)), .unset] [(.int (1 : Int32)), (.int (3 : Int32)), (.int (1 : Int32)), (.int (1 : Int32))]) _
  refine own_st (fun t k => XS.icmpNo X38.here hx rfl (hb hby at_141) rfl (by decide) k) ?_
  show own_Go p e below T38 (mkF m 144 #[.val (.int p0), .val (.int p1), .val (.int p2), .val (.ref b1), .val (.ref b10), .val (.ref b19), .val (.int (1 : Int32)), .val (.int (3 : Int32)), .val (.int (1 : Int32)), .unset] [(.int (1 : Int32)), (.int (1 : Int32))]) _
  refine own_st (fun t k => XS.iconst X38.here hx rfl (hb hby at_144) k) ?_
  show own_Go p e below T38 (mkF m 145 #[.val (.int p0), .val (.int p1), .val (.int p2), .val (.ref b1), .val (.ref b10), .val (.ref b19), .val (.int (1 : Int32)), .val (.int (3 : Int32)), .val (.int (1 : Int32)), .unset] [(.int (1 : Int32)), (.int (1 : Int32)), (.int (1 : Int32))]) _
  refine own_st (fun t k => XS.goto X38.here hx rfl (pc0 := 145) (pc' := 149) rfl (hb hby at_145) (by decide) (by decide) k) ?_
  show own_Go p e below T38 (mkF m 149 #[.val (.int p0), .val (.int p1), .val (.int p2), .val (.ref b1), .val (.ref b10), .val (.ref b19), .val (.int (1 : Int32)), .val (.int (3 : Int32)), .val (.int (1 : Int32)), .unset] [(.int (1 : Int32)), (.int (1 : Int32)), (.int (1 : Int32))]) _
  refine own_st (fun t k => XS.icmpNo X38.here hx rfl (hb hby at_149) rfl (by decide) k) ?_
  show own_Go p e below T38 (mkF m 152 #[.val (.int p0), .val (.int p1), .val (.int p2), .val (.ref b1), .val (.ref b10), .val (.ref b19), .val (.int (1 : Int32)), .val (.int (3 : Int32)), .val (.int (1 : Int32)), .unset] [(.int (1 : Int32))]) _
  refine own_st (fun t k => XS.iconst X38.here hx rfl (hb hby at_152) k) ?_
  show own_Go p e below T38 (mkF m 153 #[.val (.int p0), .val (.int p1), .val (.int p2), .val (.ref b1), .val (.ref b10), .val (.ref b19), .val (.int (1 : Int32)), .val (.int (3 : Int32)), .val (.int (1 : Int32)), .unset] [(.int (1 : Int32)), (.int (1 : Int32))]) _
  refine own_st (fun t k => XS.goto X38.here hx rfl (pc0 := 153) (pc' := 157) rfl (hb hby at_153) (by decide) (by decide) k) ?_
  show own_Go p e below T38 (mkF m 157 #[.val (.int p0), .val (.int p1), .val (.int p2), .val (.ref b1), .val (.ref b10), .val (.ref b19), .val (.int (1 : Int32)), .val (.int (3 : Int32)), .val (.int (1 : Int32)), .unset] [(.int (1 : Int32)), (.int (1 : Int32))]) _
  refine own_st (fun t k => XS.iand X38.here hx rfl (hb hby at_157) rfl k) ?_
  show own_Go p e below T38 (mkF m 158 #[.val (.int p0), .val (.int p1), .val (.int p2), .val (.ref b1), .val (.ref b10), .val (.ref b19), .val (.int (1 : Int32)), .val (.int (3 : Int32)), .val (.int (1 : Int32)), .unset] [(.int (1 : Int32))]) _
  refine own_st (fun t k => XS.istore X38.here hx rfl (hb hby at_158) rfl (l' := #[.val (.int p0), .val (.int p1), .val (.int p2), .val (.ref b1), .val (.ref b10), .val (.ref b19), .val (.int (1 : Int32)), .val (.int (3 : Int32)), .val (.int (1 : Int32)), .unset]) rfl k) ?_
  show own_Go p e below T38 (mkF m 160 #[.val (.int p0), .val (.int p1), .val (.int p2), .val (.ref b1), .val (.ref b10), .val (.ref b19), .val (.int (1 : Int32)), .val (.int (3 : Int32)), .val (.int (1 : Int32)), .unset] []) _
  refine own_st (fun t k => XS.aload X38.here hx rfl (hb hby at_160) rfl rfl k) ?_
  show own_Go p e below T38 (mkF m 162 #[.val (.int p0), .val (.int p1), .val (.int p2), .val (.ref b1), .val (.ref b10), .val (.ref b19), .val (.int (1 : Int32)), .val (.int (3 : Int32)), .val (.int (1 : Int32)), .unset] [(.ref b19)]) _
  obtain ⟨cq40, kq40, qa40, qb40, qc40⟩ := isOf hZ eH38 f39
  obtain ⟨_, _, ⟨T40, L40, k40, n40⟩, -, X40, ⟨Lc40, hQ40, l40, y40, z40⟩, st40⟩ := X38.virtualBack hx (y := (⟨"com/example/phlow/phlow/policy/PolicyClass", "markForeign", "()Z"⟩ : MethodName)) (z := (⟨"com/example/phlow/phlow/policy/PolicyClass", "markForeign", "()Z"⟩ : MethodName)) hown (mvT hZ (hw _ (List.mem_of_getElem? (i := 76) rfl))) (mvT hZ (hw _ (List.mem_of_getElem? (i := 77) rfl))) (notFace_of_selects (args := #[]) (mvT hZ (hw _ (List.mem_of_getElem? (i := 79) rfl)))) (mvT hZ (hw _ (List.mem_of_getElem? (i := 79) rfl))) (mvT hZ (hw _ (List.mem_of_getElem? (i := 78) rfl))) (by decide) (backOf (W := 0) (rmMF1 l Z a0 hw [] b19 b10 T35.heap n0 f37 f39 q35_0 q35_1 G19) hZ (hw _ (List.mem_of_getElem? (i := 80) rfl)) (hw _ (List.mem_of_getElem? (i := 32) rfl)) (by decide) (by decide)) qa40 qc40 (g := (mkF m 162 #[.val (.int p0), .val (.int p1), .val (.int p2), .val (.ref b1), .val (.ref b10), .val (.ref b19), .val (.int (1 : Int32)), .val (.int (3 : Int32)), .val (.int (1 : Int32)), .unset] [(.ref b19)])) rfl (by rw [hml]; rfl) (Steps.refl _) (argsL := []) (rest := []) (lenOf pd___Z rfl) rfl (by show 2 * 0 + _ ≤ _; exact Nat.le_of_eq rfl) (hb hby at_162) (fun _ _ => ⟨rfl, eH38, (by decide : 6 + 0 ≤ _), (by decide : 36 + 0 ≤ _)⟩)
  dsimp only [Pt.U, Pt.locs, Pt.cells, Pt.slots] at X40 l40 y40 z40 st40 hQ40
  subst l40 y40 z40
  obtain ⟨rfl, Nq40, Kq40, q40_0, q40_1⟩ := hQ40
  have N40 := Fr.app N38 Nq40
  have K41 : Keep h0 T40.heap [] := K36.trans Kq40 (allS (Or.inr B19) all0)
  refine own_tr st40 ?_
  show own_Go p e below T40 (mkF m 165 #[.val (.int p0), .val (.int p1), .val (.int p2), .val (.ref b1), .val (.ref b10), .val (.ref b19), .val (.int (1 : Int32)), .val (.int (3 : Int32)), .val (.int (1 : Int32)), .unset] [(.int (0 : Int32))]) _
  refine own_st (fun t k => XS.istore X40.here hx rfl (hb hby at_165) rfl (l' := #[.val (.int p0), .val (.int p1), .val (.int p2), .val (.ref b1), .val (.ref b10), .val (.ref b19), .val (.int (1 : Int32)), .val (.int (3 : Int32)), .val (.int (1 : Int32)), .val (.int (0 : Int32))]) rfl k) ?_
  show own_Go p e below T40 (mkF m 167 #[.val (.int p0), .val (.int p1), .val (.int p2), .val (.ref b1), .val (.ref b10), .val (.ref b19), .val (.int (1 : Int32)), .val (.int (3 : Int32)), .val (.int (1 : Int32)), .val (.int (0 : Int32))] []) _
  refine own_st (fun t k => XS.iload X40.here hx rfl (hb hby at_167) rfl k) ?_
  show own_Go p e below T40 (mkF m 169 #[.val (.int p0), .val (.int p1), .val (.int p2), .val (.ref b1), .val (.ref b10), .val (.ref b19), .val (.int (1 : Int32)), .val (.int (3 : Int32)), .val (.int (1 : Int32)), .val (.int (0 : Int32))] [(.int (1 : Int32))]) _
  refine own_st (fun t k => XS.iload X40.here hx rfl (hb hby at_169) rfl k) ?_
  show own_Go p e below T40 (mkF m 171 #[.val (.int p0), .val (.int p1), .val (.int p2), .val (.ref b1), .val (.ref b10), .val (.ref b19), .val (.int (1 : Int32)), .val (.int (3 : Int32)), .val (.int (1 : Int32)), .val (.int (0 : Int32))] [(.int (0 : Int32)), (.int (1 : Int32))]) _
  refine own_st (fun t k => XS.iload X40.here hx rfl (hb hby at_171) rfl k) ?_
  show own_Go p e below T40 (mkF m 173 #[.val (.int p0), .val (.int p1), .val (.int p2), .val (.ref b1), .val (.ref b10), .val (.ref b19), .val (.int (1 : Int32)), .val (.int (3 : Int32)), .val (.int (1 : Int32)), .val (.int (0 : Int32))] [(.int (1 : Int32)), (.int (0 : Int32)), (.int (1 : Int32))]) _
  refine own_st (fun t k => XS.ifYes X40.here hx rfl (pc0 := 173) (pc' := 180) rfl (hb hby at_173) rfl (by decide) (by decide) (by decide) k) ?_
  show own_Go p e below T40 (mkF m 180 #[.val (.int p0), .val (.int p1), .val (.int p2), .val (.ref b1), .val (.ref b10), .val (.ref b19), .val (.int (1 : Int32)), .val (.int (3 : Int32)), .val (.int (1 : Int32)), .val (.int (0 : Int32))] [(.int (0 : Int32)), (.int (1 : Int32))]) _
  refine own_st (fun t k => XS.iconst X40.here hx rfl (hb hby at_180) k) ?_
  show own_Go p e below T40 (mkF m 181 #[.val (.int p0), .val (.int p1), .val (.int p2), .val (.ref b1), .val (.ref b10), .val (.ref b19), .val (.int (1 : Int32)), .val (.int (3 : Int32)), .val (.int (1 : Int32)), .val (.int (0 : Int32))] [(.int (0 : Int32)), (.int (0 : Int32)), (.int (1 : Int32))]) _
  refine own_st (fun t k => XS.icmpNo X40.here hx rfl (hb hby at_181) rfl (by decide) k) ?_
  show own_Go p e below T40 (mkF m 184 #[.val (.int p0), .val (.int p1), .val (.int p2), .val (.ref b1), .val (.ref b10), .val (.ref b19), .val (.int (1 : Int32)), .val (.int (3 : Int32)), .val (.int (1 : Int32)), .val (.int (0 : Int32))] [(.int (1 : Int32))]) _
  refine own_st (fun t k => XS.iconst X40.here hx rfl (hb hby at_184) k) ?_
  show own_Go p e below T40 (mkF m 185 #[.val (.int p0), .val (.int p1), .val (.int p2), .val (.ref b1), .val (.ref b10), .val (.ref b19), .val (.int (1 : Int32)), .val (.int (3 : Int32)), .val (.int (1 : Int32)), .val (.int (0 : Int32))] [(.int (1 : Int32)), (.int (1 : Int32))]) _
  refine own_st (fun t k => XS.goto X40.here hx rfl (pc0 := 185) (pc' := 189) rfl (hb hby at_185) (by decide) (by decide) k) ?_
  show own_Go p e below T40 (mkF m 189 #[.val (.int p0), .val (.int p1), .val (.int p2), .val (.ref b1), .val (.ref b10), .val (.ref b19), .val (.int (1 : Int32)), .val (.int (3 : Int32)), .val (.int (1 : Int32)), .val (.int (0 : Int32))] [(.int (1 : Int32)), (.int (1 : Int32))]) _
  refine own_st (fun t k => XS.iand X40.here hx rfl (hb hby at_189) rfl k) ?_
  show own_Go p e below T40 (mkF m 190 #[.val (.int p0), .val (.int p1), .val (.int p2), .val (.ref b1), .val (.ref b10), .val (.ref b19), .val (.int (1 : Int32)), .val (.int (3 : Int32)), .val (.int (1 : Int32)), .val (.int (0 : Int32))] [(.int (1 : Int32))]) _
  refine own_st (fun t k => XS.istore X40.here hx rfl (hb hby at_190) rfl (l' := #[.val (.int p0), .val (.int p1), .val (.int p2), .val (.ref b1), .val (.ref b10), .val (.ref b19), .val (.int (1 : Int32)), .val (.int (3 : Int32)), .val (.int (1 : Int32)), .val (.int (0 : Int32))]) rfl k) ?_
  show own_Go p e below T40 (mkF m 192 #[.val (.int p0), .val (.int p1), .val (.int p2), .val (.ref b1), .val (.ref b10), .val (.ref b19), .val (.int (1 : Int32)), .val (.int (3 : Int32)), .val (.int (1 : Int32)), .val (.int (0 : Int32))] []) _
  refine own_st (fun t k => XS.iload X40.here hx rfl (hb hby at_192) rfl k) ?_
  show own_Go p e below T40 (mkF m 194 #[.val (.int p0), .val (.int p1), .val (.int p2), .val (.ref b1), .val (.ref b10), .val (.ref b19), .val (.int (1 : Int32)), .val (.int (3 : Int32)), .val (.int (1 : Int32)), .val (.int (0 : Int32))] [(.int (1 : Int32))]) _
  refine own_st (fun t k => XS.iload X40.here hx rfl (hb hby at_194) rfl k) ?_
  show own_Go p e below T40 (mkF m 196 #[.val (.int p0), .val (.int p1), .val (.int p2), .val (.ref b1), .val (.ref b10), .val (.ref b19), .val (.int (1 : Int32)), .val (.int (3 : Int32)), .val (.int (1 : Int32)), .val (.int (0 : Int32))] [(.int (0 : Int32)), (.int (1 : Int32))]) _
  refine own_st (fun t k => XS.iload X40.here hx rfl (hb hby at_196) rfl k) ?_
  show own_Go p e below T40 (mkF m 198 #[.val (.int p0), .val (.int p1), .val (.int p2), .val (.ref b1), .val (.ref b10), .val (.ref b19), .val (.int (1 : Int32)), .val (.int (3 : Int32)), .val (.int (1 : Int32)), .val (.int (0 : Int32))] [(.int (3 : Int32)), (.int (0 : Int32)), (.int (1 : Int32))]) _
  refine own_st (fun t k => XS.ifYes X40.here hx rfl (pc0 := 198) (pc' := 205) rfl (hb hby at_198) rfl (by decide) (by decide) (by decide) k) ?_
  show own_Go p e below T40 (mkF m 205 #[.val (.int p0), .val (.int p1), .val (.int p2), .val (.ref b1), .val (.ref b10), .val (.ref b19), .val (.int (1 : Int32)), .val (.int (3 : Int32)), .val (.int (1 : Int32)), .val (.int (0 : Int32))] [(.int (0 : Int32)), (.int (1 : Int32))]) _
  refine own_st (fun t k => XS.iconst X40.here hx rfl (hb hby at_205) k) ?_
  show own_Go p e below T40 (mkF m 206 #[.val (.int p0), .val (.int p1), .val (.int p2), .val (.ref b1), .val (.ref b10), .val (.ref b19), .val (.int (1 : Int32)), .val (.int (3 : Int32)), .val (.int (1 : Int32)), .val (.int (0 : Int32))] [(.int (0 : Int32)), (.int (0 : Int32)), (.int (1 : Int32))]) _
  refine own_st (fun t k => XS.icmpNo X40.here hx rfl (hb hby at_206) rfl (by decide) k) ?_
  show own_Go p e below T40 (mkF m 209 #[.val (.int p0), .val (.int p1), .val (.int p2), .val (.ref b1), .val (.ref b10), .val (.ref b19), .val (.int (1 : Int32)), .val (.int (3 : Int32)), .val (.int (1 : Int32)), .val (.int (0 : Int32))] [(.int (1 : Int32))]) _
  refine own_st (fun t k => XS.iconst X40.here hx rfl (hb hby at_209) k) ?_
  show own_Go p e below T40 (mkF m 210 #[.val (.int p0), .val (.int p1), .val (.int p2), .val (.ref b1), .val (.ref b10), .val (.ref b19), .val (.int (1 : Int32)), .val (.int (3 : Int32)), .val (.int (1 : Int32)), .val (.int (0 : Int32))] [(.int (1 : Int32)), (.int (1 : Int32))]) _
  refine own_st (fun t k => XS.goto X40.here hx rfl (pc0 := 210) (pc' := 214) rfl (hb hby at_210) (by decide) (by decide) k) ?_
  show own_Go p e below T40 (mkF m 214 #[.val (.int p0), .val (.int p1), .val (.int p2), .val (.ref b1), .val (.ref b10), .val (.ref b19), .val (.int (1 : Int32)), .val (.int (3 : Int32)), .val (.int (1 : Int32)), .val (.int (0 : Int32))] [(.int (1 : Int32)), (.int (1 : Int32))]) _
  refine own_st (fun t k => XS.iand X40.here hx rfl (hb hby at_214) rfl k) ?_
  show own_Go p e below T40 (mkF m 215 #[.val (.int p0), .val (.int p1), .val (.int p2), .val (.ref b1), .val (.ref b10), .val (.ref b19), .val (.int (1 : Int32)), .val (.int (3 : Int32)), .val (.int (1 : Int32)), .val (.int (0 : Int32))] [(.int (1 : Int32))]) _
  refine own_st (fun t k => XS.istore X40.here hx rfl (hb hby at_215) rfl (l' := #[.val (.int p0), .val (.int p1), .val (.int p2), .val (.ref b1), .val (.ref b10), .val (.ref b19), .val (.int (1 : Int32)), .val (.int (3 : Int32)), .val (.int (1 : Int32)), .val (.int (0 : Int32))]) rfl k) ?_
  show own_Go p e below T40 (mkF m 217 #[.val (.int p0), .val (.int p1), .val (.int p2), .val (.ref b1), .val (.ref b10), .val (.ref b19), .val (.int (1 : Int32)), .val (.int (3 : Int32)), .val (.int (1 : Int32)), .val (.int (0 : Int32))] []) _
  refine own_st (fun t k => XS.iload X40.here hx rfl (hb hby at_217) rfl k) ?_
  show own_Go p e below T40 (mkF m 219 #[.val (.int p0), .val (.int p1), .val (.int p2), .val (.ref b1), .val (.ref b10), .val (.ref b19), .val (.int (1 : Int32)), .val (.int (3 : Int32)), .val (.int (1 : Int32)), .val (.int (0 : Int32))] [(.int (1 : Int32))]) _
  refine own_st (fun t k => XS.aload X40.here hx rfl (hb hby at_219) rfl rfl k) ?_
  show own_Go p e below T40 (mkF m 221 #[.val (.int p0), .val (.int p1), .val (.int p2), .val (.ref b1), .val (.ref b10), .val (.ref b19), .val (.int (1 : Int32)), .val (.int (3 : Int32)), .val (.int (1 : Int32)), .val (.int (0 : Int32))] [(.ref b19), (.int (1 : Int32))]) _
  have f42 := (Nat.le_trans f37 Kq40.1)
  have f44 := (f39.keep Kq40)
  obtain ⟨cq43, kq43, qa43, qb43, qc43⟩ := isOf hZ rfl f44
  obtain ⟨_, _, ⟨T43, L43, k43, n43⟩, -, X43, ⟨Lc43, hQ43, l43, y43, z43⟩, st43⟩ := X40.virtualBack hx (y := (⟨"com/example/phlow/phlow/policy/PolicyClass", "isForeign", "()Z"⟩ : MethodName)) (z := (⟨"com/example/phlow/phlow/policy/PolicyClass", "isForeign", "()Z"⟩ : MethodName)) hown (mvT hZ (hw _ (List.mem_of_getElem? (i := 69) rfl))) (mvT hZ (hw _ (List.mem_of_getElem? (i := 70) rfl))) (notFace_of_selects (args := #[]) (mvT hZ (hw _ (List.mem_of_getElem? (i := 72) rfl)))) (mvT hZ (hw _ (List.mem_of_getElem? (i := 72) rfl))) (mvT hZ (hw _ (List.mem_of_getElem? (i := 71) rfl))) (by decide) (backOf (W := 1) (rmIF l Z a0 hw [] b19 ((1 : Int32)) T40.heap n0 f42 q40_0 (by decide)) hZ (hw _ (List.mem_of_getElem? (i := 73) rfl)) (hw _ (List.mem_of_getElem? (i := 32) rfl)) (by decide) (by decide)) qa43 qc43 (g := (mkF m 221 #[.val (.int p0), .val (.int p1), .val (.int p2), .val (.ref b1), .val (.ref b10), .val (.ref b19), .val (.int (1 : Int32)), .val (.int (3 : Int32)), .val (.int (1 : Int32)), .val (.int (0 : Int32))] [(.ref b19), (.int (1 : Int32))])) rfl (by rw [hml]; rfl) (Steps.refl _) (argsL := []) (rest := [(.int (1 : Int32))]) (lenOf pd___Z rfl) rfl (by show 2 * 0 + _ ≤ _; exact Nat.le_of_eq rfl) (hb hby at_221) (fun _ _ => ⟨rfl, rfl, (by decide : 6 + 0 ≤ _), (by decide : 36 + 0 ≤ _)⟩)
  dsimp only [Pt.U, Pt.locs, Pt.cells, Pt.slots] at X43 l43 y43 z43 st43 hQ43
  subst l43 y43 z43
  obtain ⟨rfl, Nq43, eH43⟩ := hQ43
  have N43 := Fr.app N40 Nq43
  refine own_tr st43 ?_
  show own_Go p e below T43 (mkF m 224 #[.val (.int p0), .val (.int p1), .val (.int p2), .val (.ref b1), .val (.ref b10), .val (.ref b19), .val (.int (1 : Int32)), .val (.int (3 : Int32)), .val (.int (1 : Int32)), .val (.int (0 : Int32))] [(.int (1 : Int32)), (.int (1 : Int32))]) _
  refine own_st (fun t k => XS.iand X43.here hx rfl (hb hby at_224) rfl k) ?_
  show own_Go p e below T43 (mkF m 225 #[.val (.int p0), .val (.int p1), .val (.int p2), .val (.ref b1), .val (.ref b10), .val (.ref b19), .val (.int (1 : Int32)), .val (.int (3 : Int32)), .val (.int (1 : Int32)), .val (.int (0 : Int32))] [(.int (1 : Int32))]) _
  refine own_st (fun t k => XS.istore X43.here hx rfl (hb hby at_225) rfl (l' := #[.val (.int p0), .val (.int p1), .val (.int p2), .val (.ref b1), .val (.ref b10), .val (.ref b19), .val (.int (1 : Int32)), .val (.int (3 : Int32)), .val (.int (1 : Int32)), .val (.int (0 : Int32))]) rfl k) ?_
  show own_Go p e below T43 (mkF m 227 #[.val (.int p0), .val (.int p1), .val (.int p2), .val (.ref b1), .val (.ref b10), .val (.ref b19), .val (.int (1 : Int32)), .val (.int (3 : Int32)), .val (.int (1 : Int32)), .val (.int (0 : Int32))] []) _
  refine own_st (fun t k => XS.iload X43.here hx rfl (hb hby at_227) rfl k) ?_
  show own_Go p e below T43 (mkF m 229 #[.val (.int p0), .val (.int p1), .val (.int p2), .val (.ref b1), .val (.ref b10), .val (.ref b19), .val (.int (1 : Int32)), .val (.int (3 : Int32)), .val (.int (1 : Int32)), .val (.int (0 : Int32))] [(.int (1 : Int32))]) _
  refine own_st (fun t k => XS.aload X43.here hx rfl (hb hby at_229) rfl rfl k) ?_
  show own_Go p e below T43 (mkF m 231 #[.val (.int p0), .val (.int p1), .val (.int p2), .val (.ref b1), .val (.ref b10), .val (.ref b19), .val (.int (1 : Int32)), .val (.int (3 : Int32)), .val (.int (1 : Int32)), .val (.int (0 : Int32))] [(.ref b19), (.int (1 : Int32))]) _
  obtain ⟨cq45, kq45, qa45, qb45, qc45⟩ := isOf hZ eH43 f44
  obtain ⟨_, _, ⟨T45, L45, k45, n45⟩, -, X45, ⟨Lc45, hQ45, l45, y45, z45⟩, st45⟩ := X43.virtualBack hx (y := (⟨"com/example/phlow/phlow/policy/PolicyClass", "markForeign", "()Z"⟩ : MethodName)) (z := (⟨"com/example/phlow/phlow/policy/PolicyClass", "markForeign", "()Z"⟩ : MethodName)) hown (mvT hZ (hw _ (List.mem_of_getElem? (i := 76) rfl))) (mvT hZ (hw _ (List.mem_of_getElem? (i := 77) rfl))) (notFace_of_selects (args := #[]) (mvT hZ (hw _ (List.mem_of_getElem? (i := 79) rfl)))) (mvT hZ (hw _ (List.mem_of_getElem? (i := 79) rfl))) (mvT hZ (hw _ (List.mem_of_getElem? (i := 78) rfl))) (by decide) (backOf (W := 1) (rmMF1 l Z a0 hw [] b19 b10 T40.heap n0 f42 f44 q40_0 q40_1 G19) hZ (hw _ (List.mem_of_getElem? (i := 80) rfl)) (hw _ (List.mem_of_getElem? (i := 32) rfl)) (by decide) (by decide)) qa45 qc45 (g := (mkF m 231 #[.val (.int p0), .val (.int p1), .val (.int p2), .val (.ref b1), .val (.ref b10), .val (.ref b19), .val (.int (1 : Int32)), .val (.int (3 : Int32)), .val (.int (1 : Int32)), .val (.int (0 : Int32))] [(.ref b19), (.int (1 : Int32))])) rfl (by rw [hml]; rfl) (Steps.refl _) (argsL := []) (rest := [(.int (1 : Int32))]) (lenOf pd___Z rfl) rfl (by show 2 * 0 + _ ≤ _; exact Nat.le_of_eq rfl) (hb hby at_231) (fun _ _ => ⟨rfl, eH43, (by decide : 6 + 0 ≤ _), (by decide : 36 + 0 ≤ _)⟩)
  dsimp only [Pt.U, Pt.locs, Pt.cells, Pt.slots] at X45 l45 y45 z45 st45 hQ45
  subst l45 y45 z45
  obtain ⟨rfl, Nq45, Kq45, q45_0, q45_1⟩ := hQ45
  have N45 := Fr.app N43 Nq45
  have K46 : Keep h0 T45.heap [] := K41.trans Kq45 (allS (Or.inr B19) all0)
  refine own_tr st45 ?_
  show own_Go p e below T45 (mkF m 234 #[.val (.int p0), .val (.int p1), .val (.int p2), .val (.ref b1), .val (.ref b10), .val (.ref b19), .val (.int (1 : Int32)), .val (.int (3 : Int32)), .val (.int (1 : Int32)), .val (.int (0 : Int32))] [(.int (0 : Int32)), (.int (1 : Int32))]) _
  refine own_st (fun t k => XS.ifNo X45.here hx rfl (hb hby at_234) rfl (by decide) k) ?_
  show own_Go p e below T45 (mkF m 237 #[.val (.int p0), .val (.int p1), .val (.int p2), .val (.ref b1), .val (.ref b10), .val (.ref b19), .val (.int (1 : Int32)), .val (.int (3 : Int32)), .val (.int (1 : Int32)), .val (.int (0 : Int32))] [(.int (1 : Int32))]) _
  refine own_st (fun t k => XS.iconst X45.here hx rfl (hb hby at_237) k) ?_
  show own_Go p e below T45 (mkF m 238 #[.val (.int p0), .val (.int p1), .val (.int p2), .val (.ref b1), .val (.ref b10), .val (.ref b19), .val (.int (1 : Int32)), .val (.int (3 : Int32)), .val (.int (1 : Int32)), .val (.int (0 : Int32))] [(.int (1 : Int32)), (.int (1 : Int32))]) _
  refine own_st (fun t k => XS.goto X45.here hx rfl (pc0 := 238) (pc' := 242) rfl (hb hby at_238) (by decide) (by decide) k) ?_
  show own_Go p e below T45 (mkF m 242 #[.val (.int p0), .val (.int p1), .val (.int p2), .val (.ref b1), .val (.ref b10), .val (.ref b19), .val (.int (1 : Int32)), .val (.int (3 : Int32)), .val (.int (1 : Int32)), .val (.int (0 : Int32))] [(.int (1 : Int32)), (.int (1 : Int32))]) _
  refine own_st (fun t k => XS.iand X45.here hx rfl (hb hby at_242) rfl k) ?_
  show own_Go p e below T45 (mkF m 243 #[.val (.int p0), .val (.int p1), .val (.int p2), .val (.ref b1), .val (.ref b10), .val (.ref b19), .val (.int (1 : Int32)), .val (.int (3 : Int32)), .val (.int (1 : Int32)), .val (.int (0 : Int32))] [(.int (1 : Int32))]) _
  refine own_st (fun t k => XS.istore X45.here hx rfl (hb hby at_243) rfl (l' := #[.val (.int p0), .val (.int p1), .val (.int p2), .val (.ref b1), .val (.ref b10), .val (.ref b19), .val (.int (1 : Int32)), .val (.int (3 : Int32)), .val (.int (1 : Int32)), .val (.int (0 : Int32))]) rfl k) ?_
  show own_Go p e below T45 (mkF m 245 #[.val (.int p0), .val (.int p1), .val (.int p2), .val (.ref b1), .val (.ref b10), .val (.ref b19), .val (.int (1 : Int32)), .val (.int (3 : Int32)), .val (.int (1 : Int32)), .val (.int (0 : Int32))] []) _
  refine own_st (fun t k => XS.iload X45.here hx rfl (hb hby at_245) rfl k) ?_
  show own_Go p e below T45 (mkF m 247 #[.val (.int p0), .val (.int p1), .val (.int p2), .val (.ref b1), .val (.ref b10), .val (.ref b19), .val (.int (1 : Int32)), .val (.int (3 : Int32)), .val (.int (1 : Int32)), .val (.int (0 : Int32))] [(.int (1 : Int32))]) _
  refine own_st (fun t k => XS.aload X45.here hx rfl (hb hby at_247) rfl rfl k) ?_
  show own_Go p e below T45 (mkF m 249 #[.val (.int p0), .val (.int p1), .val (.int p2), .val (.ref b1), .val (.ref b10), .val (.ref b19), .val (.int (1 : Int32)), .val (.int (3 : Int32)), .val (.int (1 : Int32)), .val (.int (0 : Int32))] [(.ref b19), (.int (1 : Int32))]) _
  have f47 := (Nat.le_trans f42 Kq45.1)
  have f49 := (f44.keep Kq45)
  obtain ⟨cq48, kq48, qa48, qb48, qc48⟩ := isOf hZ rfl f49
  obtain ⟨_, _, ⟨T48, L48, k48, n48⟩, -, X48, ⟨Lc48, hQ48, l48, y48, z48⟩, st48⟩ := X45.virtualBack hx (y := (⟨"com/example/phlow/phlow/policy/PolicyClass", "isForeign", "()Z"⟩ : MethodName)) (z := (⟨"com/example/phlow/phlow/policy/PolicyClass", "isForeign", "()Z"⟩ : MethodName)) hown (mvT hZ (hw _ (List.mem_of_getElem? (i := 69) rfl))) (mvT hZ (hw _ (List.mem_of_getElem? (i := 70) rfl))) (notFace_of_selects (args := #[]) (mvT hZ (hw _ (List.mem_of_getElem? (i := 72) rfl)))) (mvT hZ (hw _ (List.mem_of_getElem? (i := 72) rfl))) (mvT hZ (hw _ (List.mem_of_getElem? (i := 71) rfl))) (by decide) (backOf (W := 1) (rmIF l Z a0 hw [] b19 ((1 : Int32)) T45.heap n0 f47 q45_0 (by decide)) hZ (hw _ (List.mem_of_getElem? (i := 73) rfl)) (hw _ (List.mem_of_getElem? (i := 32) rfl)) (by decide) (by decide)) qa48 qc48 (g := (mkF m 249 #[.val (.int p0), .val (.int p1), .val (.int p2), .val (.ref b1), .val (.ref b10), .val (.ref b19), .val (.int (1 : Int32)), .val (.int (3 : Int32)), .val (.int (1 : Int32)), .val (.int (0 : Int32))] [(.ref b19), (.int (1 : Int32))])) rfl (by rw [hml]; rfl) (Steps.refl _) (argsL := []) (rest := [(.int (1 : Int32))]) (lenOf pd___Z rfl) rfl (by show 2 * 0 + _ ≤ _; exact Nat.le_of_eq rfl) (hb hby at_249) (fun _ _ => ⟨rfl, rfl, (by decide : 6 + 0 ≤ _), (by decide : 36 + 0 ≤ _)⟩)
  dsimp only [Pt.U, Pt.locs, Pt.cells, Pt.slots] at X48 l48 y48 z48 st48 hQ48
  subst l48 y48 z48
  obtain ⟨rfl, Nq48, eH48⟩ := hQ48
  have N48 := Fr.app N45 Nq48
  refine own_tr st48 ?_
  show own_Go p e below T48 (mkF m 252 #[.val (.int p0), .val (.int p1), .val (.int p2), .val (.ref b1), .val (.ref b10), .val (.ref b19), .val (.int (1 : Int32)), .val (.int (3 : Int32)), .val (.int (1 : Int32)), .val (.int (0 : Int32))] [(.int (1 : Int32)), (.int (1 : Int32))]) _
  refine own_st (fun t k => XS.iand X48.here hx rfl (hb hby at_252) rfl k) ?_
  show own_Go p e below T48 (mkF m 253 #[.val (.int p0), .val (.int p1), .val (.int p2), .val (.ref b1), .val (.ref b10), .val (.ref b19), .val (.int (1 : Int32)), .val (.int (3 : Int32)), .val (.int (1 : Int32)), .val (.int (0 : Int32))] [(.int (1 : Int32))]) _
  refine own_st (fun t k => XS.istore X48.here hx rfl (hb hby at_253) rfl (l' := #[.val (.int p0), .val (.int p1), .val (.int p2), .val (.ref b1), .val (.ref b10), .val (.ref b19), .val (.int (1 : Int32)), .val (.int (3 : Int32)), .val (.int (1 : Int32)), .val (.int (0 : Int32))]) rfl k) ?_
  show own_Go p e below T48 (mkF m 255 #[.val (.int p0), .val (.int p1), .val (.int p2), .val (.ref b1), .val (.ref b10), .val (.ref b19), .val (.int (1 : Int32)), .val (.int (3 : Int32)), .val (.int (1 : Int32)), .val (.int (0 : Int32))] []) _
  refine own_st (fun t k => XS.iload X48.here hx rfl (hb hby at_255) rfl k) ?_
  show own_Go p e below T48 (mkF m 257 #[.val (.int p0), .val (.int p1), .val (.int p2), .val (.ref b1), .val (.ref b10), .val (.ref b19), .val (.int (1 : Int32)), .val (.int (3 : Int32)), .val (.int (1 : Int32)), .val (.int (0 : Int32))] [(.int (1 : Int32))]) _
  refine own_st (fun t k => XS.aload X48.here hx rfl (hb hby at_257) rfl rfl k) ?_
  show own_Go p e below T48 (mkF m 259 #[.val (.int p0), .val (.int p1), .val (.int p2), .val (.ref b1), .val (.ref b10), .val (.ref b19), .val (.int (1 : Int32)), .val (.int (3 : Int32)), .val (.int (1 : Int32)), .val (.int (0 : Int32))] [(.ref b19), (.int (1 : Int32))]) _
  obtain ⟨cq50, kq50, qa50, qb50, qc50⟩ := isOf hZ eH48 f49
  obtain ⟨_, _, ⟨T50, L50, k50, n50⟩, -, X50, ⟨Lc50, hQ50, l50, y50, z50⟩, st50⟩ := X48.virtualBack hx (y := (⟨"com/example/phlow/phlow/policy/PolicyClass", "name", "()Ljava/lang/String;"⟩ : MethodName)) (z := (⟨"com/example/phlow/phlow/policy/PolicyClass", "name", "()Ljava/lang/String;"⟩ : MethodName)) hown (mvT hZ (hw _ (List.mem_of_getElem? (i := 81) rfl))) (mvT hZ (hw _ (List.mem_of_getElem? (i := 82) rfl))) (notFace_of_selects (args := #[]) (mvT hZ (hw _ (List.mem_of_getElem? (i := 84) rfl)))) (mvT hZ (hw _ (List.mem_of_getElem? (i := 84) rfl))) (mvT hZ (hw _ (List.mem_of_getElem? (i := 83) rfl))) (by decide) (backOf (W := 1) (rmNM l Z a0 hw [] b19 b10 T45.heap n0 f47 q45_1) hZ (hw _ (List.mem_of_getElem? (i := 85) rfl)) (hw _ (List.mem_of_getElem? (i := 32) rfl)) (by decide) (by decide)) qa50 qc50 (g := (mkF m 259 #[.val (.int p0), .val (.int p1), .val (.int p2), .val (.ref b1), .val (.ref b10), .val (.ref b19), .val (.int (1 : Int32)), .val (.int (3 : Int32)), .val (.int (1 : Int32)), .val (.int (0 : Int32))] [(.ref b19), (.int (1 : Int32))])) rfl (by rw [hml]; rfl) (Steps.refl _) (argsL := []) (rest := [(.int (1 : Int32))]) (lenOf pd___Ljava_lang_String_ rfl) rfl (by show 2 * 0 + _ ≤ _; exact Nat.le_of_eq rfl) (hb hby at_259) (fun _ _ => ⟨rfl, eH48, (by decide : 6 + 0 ≤ _), (by decide : 36 + 0 ≤ _)⟩)
  dsimp only [Pt.U, Pt.locs, Pt.cells, Pt.slots] at X50 l50 y50 z50 st50 hQ50
  subst l50 y50 z50
  obtain ⟨rfl, Nq50, eH50⟩ := hQ50
  have N50 := Fr.app N48 Nq50
  refine own_tr st50 ?_
  show own_Go p e below T50 (mkF m 262 #[.val (.int p0), .val (.int p1), .val (.int p2), .val (.ref b1), .val (.ref b10), .val (.ref b19), .val (.int (1 : Int32)), .val (.int (3 : Int32)), .val (.int (1 : Int32)), .val (.int (0 : Int32))] [(.ref b10), (.int (1 : Int32))]) _
  refine own_st (fun t k => XS.aload X50.here hx rfl (hb hby at_262) rfl rfl k) ?_
  show own_Go p e below T50 (mkF m 264 #[.val (.int p0), .val (.int p1), .val (.int p2), .val (.ref b1), .val (.ref b10), .val (.ref b19), .val (.int (1 : Int32)), .val (.int (3 : Int32)), .val (.int (1 : Int32)), .val (.int (0 : Int32))] [(.ref b10), (.ref b10), (.int (1 : Int32))]) _
  refine own_st (fun t k => Jvm.RoadKit.acmp (g := (mkF m 264 #[.val (.int p0), .val (.int p1), .val (.int p2), .val (.ref b1), .val (.ref b10), .val (.ref b19), .val (.int (1 : Int32)), .val (.int (3 : Int32)), .val (.int (1 : Int32)), .val (.int (0 : Int32))] [(.ref b10), (.ref b10), (.int (1 : Int32))])) X50 hx rfl rfl rfl (pc0 := 264) (pc' := 267) (same := true) rfl (hb hby at_264) rfl (decide_eq_true rfl) (by decide) (by decide) k) ?_
  show own_Go p e below T50 (mkF m 267 #[.val (.int p0), .val (.int p1), .val (.int p2), .val (.ref b1), .val (.ref b10), .val (.ref b19), .val (.int (1 : Int32)), .val (.int (3 : Int32)), .val (.int (1 : Int32)), .val (.int (0 : Int32))] [(.int (1 : Int32))]) _
  refine own_st (fun t k => XS.iconst X50.here hx rfl (hb hby at_267) k) ?_
  show own_Go p e below T50 (mkF m 268 #[.val (.int p0), .val (.int p1), .val (.int p2), .val (.ref b1), .val (.ref b10), .val (.ref b19), .val (.int (1 : Int32)), .val (.int (3 : Int32)), .val (.int (1 : Int32)), .val (.int (0 : Int32))] [(.int (1 : Int32)), (.int (1 : Int32))]) _
  refine own_st (fun t k => XS.goto X50.here hx rfl (pc0 := 268) (pc' := 272) rfl (hb hby at_268) (by decide) (by decide) k) ?_
  show own_Go p e below T50 (mkF m 272 #[.val (.int p0), .val (.int p1), .val (.int p2), .val (.ref b1), .val (.ref b10), .val (.ref b19), .val (.int (1 : Int32)), .val (.int (3 : Int32)), .val (.int (1 : Int32)), .val (.int (0 : Int32))] [(.int (1 : Int32)), (.int (1 : Int32))]) _
  refine own_st (fun t k => XS.iand X50.here hx rfl (hb hby at_272) rfl k) ?_
  show own_Go p e below T50 (mkF m 273 #[.val (.int p0), .val (.int p1), .val (.int p2), .val (.ref b1), .val (.ref b10), .val (.ref b19), .val (.int (1 : Int32)), .val (.int (3 : Int32)), .val (.int (1 : Int32)), .val (.int (0 : Int32))] [(.int (1 : Int32))]) _
  refine own_st (fun t k => XS.istore X50.here hx rfl (hb hby at_273) rfl (l' := #[.val (.int p0), .val (.int p1), .val (.int p2), .val (.ref b1), .val (.ref b10), .val (.ref b19), .val (.int (1 : Int32)), .val (.int (3 : Int32)), .val (.int (1 : Int32)), .val (.int (0 : Int32))]) rfl k) ?_
  show own_Go p e below T50 (mkF m 275 #[.val (.int p0), .val (.int p1), .val (.int p2), .val (.ref b1), .val (.ref b10), .val (.ref b19), .val (.int (1 : Int32)), .val (.int (3 : Int32)), .val (.int (1 : Int32)), .val (.int (0 : Int32))] []) _
  refine own_st (fun t k => XS.iload X50.here hx rfl (hb hby at_275) rfl k) ?_
  show own_Go p e below T50 (mkF m 277 #[.val (.int p0), .val (.int p1), .val (.int p2), .val (.ref b1), .val (.ref b10), .val (.ref b19), .val (.int (1 : Int32)), .val (.int (3 : Int32)), .val (.int (1 : Int32)), .val (.int (0 : Int32))] [(.int (1 : Int32))]) _
  obtain ⟨fs, hr, hrun, hended, hW, hsame⟩ := X50.leave (v := some (.int (1 : Int32))) (fun h => by rw [Bd.returns] at h; cases h)
  refine own_fin (retN X50 hx (t := .boolean) Bd.returns (by simp) (hb hby at_277) hr) ⟨hrun, hended, _, _, rfl, ?_, ⟨_, rfl⟩, hW, hsame.mono (by decide) (by decide)⟩
  show Q_rmLaw3 Z p0 p1 p2 zc h0 n0 _ T50.heap _
  rw [eH50]
  exact ⟨rfl, N50, K46⟩
theorem own_pre (p2 : Int32) : p2 &&& (3 : Int32) = (0 : Int32) ∨ p2 &&& (3 : Int32) = (1 : Int32) ∨ p2 &&& (3 : Int32) = (2 : Int32) ∨ p2 &&& (3 : Int32) = (3 : Int32) := by
  have h := c_and p2 3 (by decide)
  have e3 : (3 : Int32).toInt = 3 := rfl
  rw [e3] at h
  have h4 : (p2 &&& 3).toInt = 0 ∨ (p2 &&& 3).toInt = 1 ∨ (p2 &&& 3).toInt = 2 ∨ (p2 &&& 3).toInt = 3 := by omega
  rcases h4 with q | q | q | q
  · exact Or.inl (Int32.toInt_inj.mp q)
  · exact Or.inr (Or.inl (Int32.toInt_inj.mp q))
  · exact Or.inr (Or.inr (Or.inl (Int32.toInt_inj.mp q)))
  · exact Or.inr (Or.inr (Or.inr (Int32.toInt_inj.mp q)))
theorem rmLaw (l : Launch) (Z : State) (a0 : Array Value) (hw : ∀ d ∈ tables_1, d.before a0 Z = true) (ws : List Jvm.Cond) (p0 p1 p2 zc : Int32) (h0 : Heap) (n0 : Nat) (Z0 : n0 ≤ h0.size) (S1 : Sta Z Z.heap "java/lang/String" "COMPACT_STRINGS" "Z" (.int zc)) (P5 : ¬ (zc = (0 : Int32))) (O1 : Old Z n0 h0) :
    MetFree l x (head1 (Jvm.Cond.code x code maxLocals ret :: ws) room_1) (fun a U => a = #[(.int p0), (.int p1), (.int p2)] ∧ Z.Warmed39 U.vm ∧ U.heap = h0) (fun _ _ _ _ _ => True) (fun _ U o U' => ∃ v L, o = .returned v ∧ (v = some (.int (1 : Int32)) ∧ Fr n0 L ∧ Keep h0 U'.heap []) ∧ FrameEnd U o U' L 24 192) := by
  rcases own_pre p2 with q | q | q | q
  · exact rmLaw0 l Z a0 hw ws p0 p1 p2 zc h0 n0 Z0 S1 P5 O1 q
  · exact rmLaw1 l Z a0 hw ws p0 p1 p2 zc h0 n0 Z0 S1 P5 O1 q
  · exact rmLaw2 l Z a0 hw ws p0 p1 p2 zc h0 n0 Z0 S1 P5 O1 q
  · exact rmLaw3 l Z a0 hw ws p0 p1 p2 zc h0 n0 Z0 S1 P5 O1 q
set_option maxRecDepth 65536 in
set_option maxHeartbeats 40000000 in
theorem comes_1 {Post : Tables → Env → Array Value → State → Outcome → State → Prop} (hpost : ∀ tb e args s v u, (limb_1_1.after args s (.returned v) u = true ∧ limb_1_2.after args s (.returned v) u = true ∧ True) → FrameEnd s (.returned v) u (Jvm.fieldLocs frame_1_writes args s ++ Jvm.arrayLocs frame_1_arrays args s ++ Jvm.staticLocs frame_1_statics s) 24 192 → Post tb e args s (.returned v) u) :
    ArmFor flags0 classFile x code maxLocals ret World_1 tables_1 room_1 Calls_1 rest_1 Pre_1 Post := by
  intro l hfl _ _ p e ha hc hk s m args below hf hA hF happ hP
  obtain ⟨hcalls, hrest, hpre⟩ := hP
  obtain ⟨-, -, -, hnamed, -, -, -, hat⟩ := (Spec.applies_iff hf).mp happ
  obtain ⟨hg, hn⟩ := and_e (Cond.before_iff.mp (show (Jvm.Cond.and given_1 narrow_1).before args s = true from hpre))
  obtain ⟨hc0, hg0⟩ := and_e hg
  obtain ⟨ga0, hg1⟩ := and_e hg0
  obtain ⟨ga1, hg2⟩ := and_e hg1
  have ga2 := hg2
  obtain ⟨w0, w1, w2, rfl⟩ : ∃ w0 w1 w2 : Value, args = #[w0, w1, w2] := by
    have hs : args.size = 3 := by simpa [Cond.value, given_1] using hc0
    obtain ⟨L⟩ := args
    match L, hs with
    | [w0, w1, w2], _ => exact ⟨w0, w1, w2, rfl⟩
  have hw := fun d (hd : d ∈ tables_1) => atoms_spec (ws := Jvm.Cond.code x code maxLocals ret :: tables_1) hat d (List.mem_cons_of_mem _ hd)
  have hfit : Fit s := fun {y c} hc i hi => by
    obtain ⟨ha, rfl⟩ := Array.getElem?_eq_some_iff.mp hc
    have q := List.all_eq_true.mp ((Array.all_eq_true_iff_forall_mem.mp hF) _ (Array.getElem_mem ha)) i (List.mem_range.mpr hi)
    simpa [Array.getElem?_eq_getElem hi] using q
  obtain ⟨hsets, hown0⟩ := atoms_of _ (rest_1_c_eq ▸ (show rest_1_c.before _ s = true from hrest))
  obtain ⟨i0, ei0⟩ := is_v ga0
  obtain rfl : w0 = (.int i0) := Option.some.inj ei0
  obtain ⟨i1, ei1⟩ := is_v ga1
  obtain rfl : w1 = (.int i1) := Option.some.inj ei1
  obtain ⟨i2, ei2⟩ := is_v ga2
  obtain rfl : w2 = (.int i2) := Option.some.inj ei2
  have n5 := not_v (Cond.before_iff.mp (hsets _ (List.mem_of_getElem? (i := 2) rfl)))
  obtain ⟨j1, e1⟩ := is_v (Cond.before_iff.mp (hsets _ (List.mem_of_getElem? (i := 1) rfl)))
  have S1 : Sta s s.heap "java/lang/String" "COMPACT_STRINGS" "Z" (.int j1) := Sta.start e1 (Or.inl (hsets _ (List.mem_of_getElem? (i := 0) rfl)))
  have c5 : ¬ (j1 = (0 : Int32)) := gotF (Cond.eq_ints e1 (Term.int_eval (0))) n5
  obtain ⟨n, o, h1, h2, h3, _, L, rfl, ⟨rfl, N, -⟩, hq⟩ := rmLaw l s _ hw tables_1 i0 i1 i2 j1 s.heap s.heap.size (Nat.le_refl _) S1 c5 (Old.start s) p e ha hc hk s m _ below hf ((Spec.applies_iff_loose hf).mp happ).1 ⟨rfl, State.Warmed39.refl s, rfl⟩ trivial
  refine ⟨n, _, h1, h2, h3, hpost _ _ _ _ _ _ ⟨Cond.after_iff.mpr rfl, Cond.after_iff.mpr (eq_i res_at (Term.int_eval (1)) rfl), trivial⟩ ⟨hq.1, hq.2.1, (hq.2.2.sift fun y hy => Or.inr (N y hy)).mono (by decide) (by decide)⟩⟩
theorem main_1_1 : Claimed_1_1 := comes_1 fun _ _ _ _ _ _ h hF => ⟨h.1, hF⟩
theorem main_1_2 : Claimed_1_2 := comes_1 fun _ _ _ _ _ _ h hF => ⟨h.2.1, hF⟩
end Jvm.Pilot.@@N@@
namespace Jvm.Pilot.@@N@@
open Jvm Jvm.ClassFile Sem Op Lib Jvm.Free Jvm.Stand Jvm.Pilot.@@N@@.Jvm.D
/-! MADE BY PROGRAM (witnessworld.py) out of the Statement's table words and the real class files: 25 classes; the members and pool entries that the words name. The judged class is class 1, her method 1. -/
namespace start1
open Jvm.ClassFile
def u (s : String) : CpInfo := .utf8 (stringToUtf16 s)
/-- a pool by its gaps: so many unusable entries, then the entry; so many at the end -/
def gap : Nat → List CpInfo → List CpInfo
  | 0, r => r
  | n + 1, r => .unusable :: gap n r
def poolList (es : List (Nat × CpInfo)) (last : Nat) : List CpInfo := es.foldr (fun e r => gap e.1 (e.2 :: r)) (gap last [])
def pool (es : List (Nat × CpInfo)) (last : Nat) : Array CpInfo := ⟨poolList es last⟩
def fileOf (pool : Array CpInfo) (this : Nat) (attrs : Array Attribute := #[]) (ms : Array MethodInfo := #[]) (fl : Nat := 33) (sup : Nat := 0) (ifs : Array Nat := #[]) (fds : Array FieldInfo := #[]) : ClassFile where
  minorVersion := 0
  majorVersion := 65
  constantPool := pool
  accessFlags := fl
  thisClass := this
  superClass := sup
  interfaces := ifs
  fields := fds
  methods := ms
  attributes := attrs
def plain (name : String) (sup : Option ClassId) : Class where
  name := name
  kind := .ordinary
  loader := none
  accessFlags := 33
  super := sup
  interfaces := #[]
  cf := none
  fields := #[]
  methods := #[]
  instanceTypes := #[]
  staticTypes := #[]
  resolved := #[]
  callSites := []
  init := .initialized
  statics := none
  mirror := none

def pool0 : Array CpInfo := pool [(5, u "<init>"), (0, u "()V"), (1, .class_ 10), (1, u "java/lang/Object")] 113

def k0c0 : Code := { maxStack := 0, maxLocals := 1, code := object_method_1_code, exceptionTable := #[], attributes := #[] }
def k0m0 : Method := { name := "<init>", desc := "()V", sig := { parameters := [], returnType := none }, accessFlags := 1, code := some k0c0 }
/-- java/lang/Object -/
def k0 : Class := { plain "java/lang/Object" none with
  accessFlags := 33
  interfaces := #[]
  cf := some (fileOf pool0 8 #[] #[{ accessFlags := 1, nameIndex := 5, descriptorIndex := 6, attributes := #[] }] 33 0 #[] #[])
  fields := #[]
  methods := #[k0m0]
  instanceTypes := #[]
  staticTypes := #[]
  resolved := Array.replicate 124 none
  statics := none }

def pool1 : Array CpInfo := pool [(2, .class_ 4), (1, u "java/lang/Object"), (0, u "<init>"), (0, u "()V"), (0, .class_ 8), (0, u "java/lang/String"), (0, .methodref 7 10), (0, .nameAndType 5 11), (0, u "([C)V"), (0, .class_ 13), (0, u "com/example/phlow/phlow/policy/PolicyClass"), (0, .methodref 12 15), (0, .nameAndType 5 16), (0, u "(Ljava/lang/String;)V"), (0, .methodref 12 18), (0, .nameAndType 19 20), (0, u "isForeign"), (0, u "()Z"), (0, .methodref 12 22), (0, .nameAndType 23 20), (0, u "markForeign"), (0, .methodref 12 25), (0, .nameAndType 26 27), (0, u "name"), (0, u "()Ljava/lang/String;"), (0, .class_ 29), (0, u "com/example/phlow/phlow/policy/PolicyClassMarkForeignPinLaw"), (2, u "law"), (0, u "(III)Z")] 5

def k1m0 : Method := { name := "<init>", desc := "()V", sig := { parameters := [], returnType := none }, accessFlags := 2, code := none }
def k1c1 : Code := { maxStack := 4, maxLocals := 10, code := code, exceptionTable := #[], attributes := #[] }
def k1m1 : Method := { name := "law", desc := "(III)Z", sig := { parameters := [.int, .int, .int], returnType := some .boolean }, accessFlags := 9, code := some k1c1 }
/-- com/example/phlow/phlow/policy/PolicyClassMarkForeignPinLaw -/
def k1 : Class := { plain "com/example/phlow/phlow/policy/PolicyClassMarkForeignPinLaw" (some 0) with
  accessFlags := 49
  interfaces := #[]
  cf := some (fileOf pool1 28 #[] #[{ accessFlags := 2, nameIndex := 5, descriptorIndex := 6, attributes := #[] }, { accessFlags := 9, nameIndex := 32, descriptorIndex := 33, attributes := #[] }] 49 2 #[] #[])
  fields := #[]
  methods := #[k1m0, k1m1]
  instanceTypes := #[]
  staticTypes := #[]
  resolved := Array.replicate 39 none
  statics := none }

def pool2 : Array CpInfo := pool [(1, .class_ 2), (0, u "java/io/Serializable"), (0, .class_ 4), (0, u "java/lang/Object")] 2

/-- java/io/Serializable -/
def k2 : Class := { plain "java/io/Serializable" (some 0) with
  accessFlags := 1537
  interfaces := #[]
  cf := some (fileOf pool2 1 #[] #[] 1537 3 #[] #[])
  fields := #[]
  methods := #[]
  instanceTypes := #[]
  staticTypes := #[]
  resolved := Array.replicate 7 none
  statics := none }

def pool3 : Array CpInfo := pool [(1, .class_ 2), (0, u "java/lang/Comparable"), (0, .class_ 4), (0, u "java/lang/Object")] 7

/-- java/lang/Comparable -/
def k3 : Class := { plain "java/lang/Comparable" (some 0) with
  accessFlags := 1537
  interfaces := #[]
  cf := some (fileOf pool3 1 #[] #[] 1537 3 #[] #[])
  fields := #[]
  methods := #[]
  instanceTypes := #[]
  staticTypes := #[]
  resolved := Array.replicate 12 none
  statics := none }

def pool4 : Array CpInfo := pool [(2, .class_ 4), (1, u "java/lang/CharSequence"), (42, .class_ 48), (0, u "java/lang/CharSequence$1CodePointIterator"), (10, .class_ 60), (0, u "java/lang/CharSequence$1CharIterator"), (5, .class_ 67), (0, u "java/lang/Object")] 63

/-- java/lang/CharSequence -/
def k4 : Class := { plain "java/lang/CharSequence" (some 0) with
  accessFlags := 1537
  interfaces := #[]
  cf := some (fileOf pool4 2 #[.nestMembers #[47, 59]] #[] 1537 66 #[] #[])
  fields := #[]
  methods := #[]
  instanceTypes := #[]
  staticTypes := #[]
  resolved := Array.replicate 131 none
  statics := none }

def pool5 : Array CpInfo := pool [(1, .class_ 2), (0, u "java/lang/constant/Constable"), (0, .class_ 4), (0, u "java/lang/Object")] 6

/-- java/lang/constant/Constable -/
def k5 : Class := { plain "java/lang/constant/Constable" (some 0) with
  accessFlags := 1537
  interfaces := #[]
  cf := some (fileOf pool5 1 #[] #[] 1537 3 #[] #[])
  fields := #[]
  methods := #[]
  instanceTypes := #[]
  staticTypes := #[]
  resolved := Array.replicate 11 none
  statics := none }

def pool6 : Array CpInfo := pool [(1, .class_ 2), (0, u "java/lang/constant/ConstantDesc"), (0, .class_ 4), (0, u "java/lang/Object")] 32

/-- java/lang/constant/ConstantDesc -/
def k6 : Class := { plain "java/lang/constant/ConstantDesc" (some 0) with
  accessFlags := 1537
  interfaces := #[]
  cf := some (fileOf pool6 1 #[] #[] 1537 3 #[] #[])
  fields := #[]
  methods := #[]
  instanceTypes := #[]
  staticTypes := #[]
  resolved := Array.replicate 37 none
  statics := none }

def pool7 : Array CpInfo := pool [(1, .methodref 2 3), (0, .class_ 4), (0, .nameAndType 5 6), (0, u "java/lang/Object"), (0, u "<init>"), (0, u "()V"), (2, .fieldref 10 11), (0, .class_ 12), (0, .nameAndType 13 14), (0, u "java/lang/String"), (0, u "value"), (0, u "[B"), (0, .fieldref 10 16), (0, .nameAndType 17 18), (0, u "coder"), (0, u "B"), (2, u "hash"), (0, u "I"), (2, u "hashIsZero"), (0, u "Z"), (0, .methodref 10 28), (0, .nameAndType 5 29), (0, u "([CIILjava/lang/Void;)V"), (8, .fieldref 10 39), (0, .nameAndType 40 26), (0, u "COMPACT_STRINGS"), (1, .class_ 44), (1, u "java/lang/StringUTF16"), (0, u "compress"), (1, .methodref 42 48), (0, .nameAndType 49 50), (0, u "coderFromArrayLen"), (0, u "([BI)B"), (126, .methodref 42 178), (0, .nameAndType 45 179), (0, u "([CII)[B"), (395, .class_ 576), (0, u "java/lang/CharSequence"), (22, u "CASE_INSENSITIVE_ORDER"), (0, u "Ljava/util/Comparator;"), (409, u "([C)V"), (90, u "serialPersistentFields"), (0, u "[Ljava/io/ObjectStreamField;"), (0, .class_ 1104), (0, u "java/lang/String$CaseInsensitiveComparator"), (1, .class_ 1107), (0, u "java/io/Serializable"), (0, .class_ 1109), (0, u "java/lang/Comparable"), (0, .class_ 1111), (0, u "java/lang/constant/Constable"), (0, .class_ 1113), (0, u "java/lang/constant/ConstantDesc"), (2, u "serialVersionUID"), (0, u "J"), (3, u "REPL"), (0, u "C"), (2, u "LATIN1"), (1, u "UTF16")] 323

def k7m0 : Method := { name := "<init>", desc := "()V", sig := { parameters := [], returnType := none }, accessFlags := 1, code := none }
def k7c1 : Code := { maxStack := 5, maxLocals := 2, code := jdk_42_method_3_code, exceptionTable := #[], attributes := #[] }
def k7m1 : Method := { name := "<init>", desc := "([C)V", sig := { parameters := [(.array .char)], returnType := none }, accessFlags := 1, code := some k7c1 }
def k7c2 : Code := { maxStack := 4, maxLocals := 6, code := jdk_42_method_149_code, exceptionTable := #[], attributes := #[] }
def k7m2 : Method := { name := "<init>", desc := "([CIILjava/lang/Void;)V", sig := { parameters := [(.array .char), .int, .int, (.object "java/lang/Void")], returnType := none }, accessFlags := 2, code := some k7c2 }
/-- java/lang/String -/
def k7 : Class := { plain "java/lang/String" (some 0) with
  accessFlags := 49
  interfaces := #[2, 3, 4, 5, 6]
  cf := some (fileOf pool7 10 #[.nestMembers #[1103]] #[{ accessFlags := 1, nameIndex := 5, descriptorIndex := 6, attributes := #[] }, { accessFlags := 1, nameIndex := 5, descriptorIndex := 1010, attributes := #[] }, { accessFlags := 2, nameIndex := 5, descriptorIndex := 29, attributes := #[] }] 49 2 #[1106, 1108, 575, 1110, 1112] #[{ accessFlags := 18, nameIndex := 13, descriptorIndex := 14, attributes := #[] }, { accessFlags := 18, nameIndex := 17, descriptorIndex := 18, attributes := #[] }, { accessFlags := 2, nameIndex := 21, descriptorIndex := 22, attributes := #[] }, { accessFlags := 2, nameIndex := 25, descriptorIndex := 26, attributes := #[] }, { accessFlags := 26, nameIndex := 1116, descriptorIndex := 1117, attributes := #[] }, { accessFlags := 24, nameIndex := 40, descriptorIndex := 26, attributes := #[] }, { accessFlags := 26, nameIndex := 1101, descriptorIndex := 1102, attributes := #[] }, { accessFlags := 26, nameIndex := 1121, descriptorIndex := 1122, attributes := #[] }, { accessFlags := 25, nameIndex := 599, descriptorIndex := 600, attributes := #[] }, { accessFlags := 24, nameIndex := 1125, descriptorIndex := 18, attributes := #[] }, { accessFlags := 24, nameIndex := 1127, descriptorIndex := 18, attributes := #[] }])
  fields := #[{ name := "value", type := (.array .byte), accessFlags := 18, slot := 0, constantValue := 0 }, { name := "coder", type := .byte, accessFlags := 18, slot := 1, constantValue := 0 }, { name := "hash", type := .int, accessFlags := 2, slot := 2, constantValue := 0 }, { name := "hashIsZero", type := .boolean, accessFlags := 2, slot := 3, constantValue := 0 }, { name := "serialVersionUID", type := .long, accessFlags := 26, slot := 0, constantValue := 0 }, { name := "COMPACT_STRINGS", type := .boolean, accessFlags := 24, slot := 1, constantValue := 0 }, { name := "serialPersistentFields", type := (.array (.object "java/io/ObjectStreamField")), accessFlags := 26, slot := 2, constantValue := 0 }, { name := "REPL", type := .char, accessFlags := 26, slot := 3, constantValue := 0 }, { name := "CASE_INSENSITIVE_ORDER", type := (.object "java/util/Comparator"), accessFlags := 25, slot := 4, constantValue := 0 }, { name := "LATIN1", type := .byte, accessFlags := 24, slot := 5, constantValue := 0 }, { name := "UTF16", type := .byte, accessFlags := 24, slot := 6, constantValue := 0 }]
  methods := #[k7m0, k7m1, k7m2]
  instanceTypes := #[(.array .byte), .byte, .int, .boolean]
  staticTypes := #[.long, .boolean, (.array (.object "java/io/ObjectStreamField")), .char, (.object "java/util/Comparator"), .byte, .byte]
  resolved := Array.replicate 1451 none
  statics := some 0 }

def pool8 : Array CpInfo := pool [(6, .class_ 8), (1, u "java/lang/Object"), (0, u "<init>"), (0, u "()V"), (1, .class_ 14), (1, u "java/lang/StringUTF16"), (31, u "$assertionsDisabled"), (0, u "Z"), (13, u "HI_BYTE_SHIFT"), (0, u "I"), (2, u "LO_BYTE_SHIFT"), (49, .methodref 12 116), (0, .nameAndType 117 118), (0, u "compress"), (0, u "([CI[BII)I"), (3, u "([CII)[B"), (138, u "coderFromArrayLen"), (0, u "([BI)B"), (106, .class_ 371), (1, u "java/lang/StringUTF16$LinesSpliterator"), (58, u "MAX_LENGTH"), (196, .class_ 628), (0, u "java/lang/StringUTF16$CodePointsSpliterator"), (0, .class_ 630), (0, u "java/lang/StringUTF16$CharsSpliterator")] 4

def k8m0 : Method := { name := "<init>", desc := "()V", sig := { parameters := [], returnType := none }, accessFlags := 0, code := none }
def k8c1 : Code := { maxStack := 2, maxLocals := 2, code := jdk_52_method_15_code, exceptionTable := #[], attributes := #[] }
def k8m1 : Method := { name := "coderFromArrayLen", desc := "([BI)B", sig := { parameters := [(.array .byte), .int], returnType := some .byte }, accessFlags := 8, code := some k8c1 }
def k8c2 : Code := { maxStack := 5, maxLocals := 6, code := jdk_52_method_16_code, exceptionTable := #[], attributes := #[] }
def k8m2 : Method := { name := "compress", desc := "([CII)[B", sig := { parameters := [(.array .char), .int, .int], returnType := some (.array .byte) }, accessFlags := 9, code := some k8c2 }
def k8c3 : Code := { maxStack := 3, maxLocals := 7, code := jdk_52_method_21_code, exceptionTable := #[], attributes := #[] }
def k8m3 : Method := { name := "compress", desc := "([CI[BII)I", sig := { parameters := [(.array .char), .int, (.array .byte), .int, .int], returnType := some .int }, accessFlags := 9, code := some k8c3 }
/-- java/lang/StringUTF16 -/
def k8 : Class := { plain "java/lang/StringUTF16" (some 0) with
  accessFlags := 48
  interfaces := #[]
  cf := some (fileOf pool8 12 #[.nestMembers #[627, 629, 369]] #[{ accessFlags := 0, nameIndex := 9, descriptorIndex := 10, attributes := #[] }, { accessFlags := 8, nameIndex := 261, descriptorIndex := 262, attributes := #[] }, { accessFlags := 9, nameIndex := 117, descriptorIndex := 122, attributes := #[] }, { accessFlags := 9, nameIndex := 117, descriptorIndex := 118, attributes := #[] }] 48 6 #[] #[{ accessFlags := 26, nameIndex := 61, descriptorIndex := 62, attributes := #[] }, { accessFlags := 26, nameIndex := 65, descriptorIndex := 62, attributes := #[] }, { accessFlags := 24, nameIndex := 430, descriptorIndex := 62, attributes := #[] }, { accessFlags := 4120, nameIndex := 46, descriptorIndex := 47, attributes := #[] }])
  fields := #[{ name := "HI_BYTE_SHIFT", type := .int, accessFlags := 26, slot := 0, constantValue := 0 }, { name := "LO_BYTE_SHIFT", type := .int, accessFlags := 26, slot := 1, constantValue := 0 }, { name := "MAX_LENGTH", type := .int, accessFlags := 24, slot := 2, constantValue := 0 }, { name := "$assertionsDisabled", type := .boolean, accessFlags := 4120, slot := 3, constantValue := 0 }]
  methods := #[k8m0, k8m1, k8m2, k8m3]
  instanceTypes := #[]
  staticTypes := #[.int, .int, .int, .boolean]
  resolved := Array.replicate 635 none
  statics := none }

def pool9 : Array CpInfo := pool [(1, .methodref 2 3), (0, .class_ 4), (0, .nameAndType 5 6), (0, u "java/lang/Object"), (0, u "<init>"), (0, u "()V"), (0, .class_ 8), (0, u "java/util/LinkedHashMap"), (0, .methodref 7 3), (0, .fieldref 11 12), (0, .class_ 13), (0, .nameAndType 14 15), (0, u "com/example/phlow/phlow/policy/PolicyClass"), (0, u "methods"), (0, u "Ljava/util/Map;"), (0, .fieldref 11 17), (0, .nameAndType 18 15), (0, u "attributes"), (0, .fieldref 11 20), (0, .nameAndType 21 22), (0, u "name"), (0, u "Ljava/lang/String;"), (0, .fieldref 11 24), (0, .nameAndType 25 26), (0, u "foreign"), (0, u "Z"), (42, u "()Ljava/lang/String;"), (16, u "(Ljava/lang/String;)V"), (2, u "isForeign"), (0, u "()Z"), (13, u "markForeign")] 5

def k9c0 : Code := { maxStack := 3, maxLocals := 2, code := prog_36_method_1_code, exceptionTable := #[], attributes := #[] }
def k9m0 : Method := { name := "<init>", desc := "(Ljava/lang/String;)V", sig := { parameters := [(.object "java/lang/String")], returnType := none }, accessFlags := 0, code := some k9c0 }
def k9c1 : Code := { maxStack := 1, maxLocals := 1, code := prog_36_method_2_code, exceptionTable := #[], attributes := #[] }
def k9m1 : Method := { name := "name", desc := "()Ljava/lang/String;", sig := { parameters := [], returnType := some (.object "java/lang/String") }, accessFlags := 1, code := some k9c1 }
def k9c2 : Code := { maxStack := 1, maxLocals := 1, code := prog_36_method_3_code, exceptionTable := #[], attributes := #[] }
def k9m2 : Method := { name := "isForeign", desc := "()Z", sig := { parameters := [], returnType := some .boolean }, accessFlags := 1, code := some k9c2 }
def k9c3 : Code := { maxStack := 2, maxLocals := 2, code := prog_36_method_10_code, exceptionTable := #[], attributes := #[] }
def k9m3 : Method := { name := "markForeign", desc := "()Z", sig := { parameters := [], returnType := some .boolean }, accessFlags := 0, code := some k9c3 }
/-- com/example/phlow/phlow/policy/PolicyClass -/
def k9 : Class := { plain "com/example/phlow/phlow/policy/PolicyClass" (some 0) with
  accessFlags := 49
  interfaces := #[]
  cf := some (fileOf pool9 11 #[] #[{ accessFlags := 0, nameIndex := 5, descriptorIndex := 86, attributes := #[] }, { accessFlags := 1, nameIndex := 21, descriptorIndex := 69, attributes := #[] }, { accessFlags := 1, nameIndex := 89, descriptorIndex := 90, attributes := #[] }, { accessFlags := 0, nameIndex := 104, descriptorIndex := 90, attributes := #[] }] 49 2 #[] #[{ accessFlags := 18, nameIndex := 21, descriptorIndex := 22, attributes := #[] }, { accessFlags := 18, nameIndex := 14, descriptorIndex := 15, attributes := #[] }, { accessFlags := 18, nameIndex := 18, descriptorIndex := 15, attributes := #[] }, { accessFlags := 2, nameIndex := 25, descriptorIndex := 26, attributes := #[] }])
  fields := #[{ name := "name", type := (.object "java/lang/String"), accessFlags := 18, slot := 0, constantValue := 0 }, { name := "methods", type := (.object "java/util/Map"), accessFlags := 18, slot := 1, constantValue := 0 }, { name := "attributes", type := (.object "java/util/Map"), accessFlags := 18, slot := 2, constantValue := 0 }, { name := "foreign", type := .boolean, accessFlags := 2, slot := 3, constantValue := 0 }]
  methods := #[k9m0, k9m1, k9m2, k9m3]
  instanceTypes := #[(.object "java/lang/String"), (.object "java/util/Map"), (.object "java/util/Map"), .boolean]
  staticTypes := #[]
  resolved := Array.replicate 110 none
  statics := none }

def pool10 : Array CpInfo := pool [(2, .class_ 4), (1, u "java/util/Map"), (31, .class_ 37), (0, u "java/util/Map$Entry"), (55, .class_ 94), (0, u "java/lang/Object")] 168

/-- java/util/Map -/
def k10 : Class := { plain "java/util/Map" (some 0) with
  accessFlags := 1537
  interfaces := #[]
  cf := some (fileOf pool10 2 #[.nestMembers #[36]] #[] 1537 93 #[] #[])
  fields := #[]
  methods := #[]
  instanceTypes := #[]
  staticTypes := #[]
  resolved := Array.replicate 263 none
  statics := none }

def pool11 : Array CpInfo := pool [(1, .methodref 2 3), (0, .class_ 4), (0, .nameAndType 5 6), (0, u "java/lang/Object"), (0, u "<init>"), (0, u "()V"), (1, .class_ 10), (1, u "java/util/AbstractMap"), (42, .class_ 54), (0, u "java/util/Map"), (9, u "keySet"), (0, u "Ljava/util/Set;"), (0, .class_ 67), (0, u "java/util/AbstractMap$1"), (5, u "values"), (0, u "Ljava/util/Collection;"), (0, .class_ 76), (0, u "java/util/AbstractMap$2"), (104, .class_ 182), (0, u "java/util/AbstractMap$ViewCollection"), (0, .class_ 184), (0, u "java/util/AbstractMap$SimpleImmutableEntry"), (0, .class_ 186), (0, u "java/util/AbstractMap$SimpleEntry"), (0, .class_ 188), (0, u "java/util/AbstractMap$2$1"), (0, .class_ 190), (0, u "java/util/AbstractMap$1$1")] 5

def k11c0 : Code := { maxStack := 1, maxLocals := 1, code := jdk_71_method_1_code, exceptionTable := #[], attributes := #[] }
def k11m0 : Method := { name := "<init>", desc := "()V", sig := { parameters := [], returnType := none }, accessFlags := 4, code := some k11c0 }
/-- java/util/AbstractMap -/
def k11 : Class := { plain "java/util/AbstractMap" (some 0) with
  accessFlags := 1057
  interfaces := #[10]
  cf := some (fileOf pool11 8 #[.nestMembers #[181, 183, 185, 75, 187, 66, 189]] #[{ accessFlags := 4, nameIndex := 5, descriptorIndex := 6, attributes := #[] }] 1057 2 #[53] #[{ accessFlags := 128, nameIndex := 64, descriptorIndex := 65, attributes := #[] }, { accessFlags := 128, nameIndex := 73, descriptorIndex := 74, attributes := #[] }])
  fields := #[{ name := "keySet", type := (.object "java/util/Set"), accessFlags := 128, slot := 0, constantValue := 0 }, { name := "values", type := (.object "java/util/Collection"), accessFlags := 128, slot := 1, constantValue := 0 }]
  methods := #[k11m0]
  instanceTypes := #[(.object "java/util/Set"), (.object "java/util/Collection")]
  staticTypes := #[]
  resolved := Array.replicate 196 none
  statics := none }

def pool12 : Array CpInfo := pool [(1, .class_ 2), (0, u "java/lang/Cloneable"), (0, .class_ 4), (0, u "java/lang/Object")] 2

/-- java/lang/Cloneable -/
def k12 : Class := { plain "java/lang/Cloneable" (some 0) with
  accessFlags := 1537
  interfaces := #[]
  cf := some (fileOf pool12 1 #[] #[] 1537 3 #[] #[])
  fields := #[]
  methods := #[]
  instanceTypes := #[]
  staticTypes := #[]
  resolved := Array.replicate 7 none
  statics := none }

def pool13 : Array CpInfo := pool [(40, .class_ 41), (0, u "java/util/HashMap"), (1, .methodref 44 45), (0, .class_ 46), (0, .nameAndType 47 48), (0, u "java/util/AbstractMap"), (0, u "<init>"), (0, u "()V"), (32, .fieldref 40 82), (0, .nameAndType 83 84), (0, u "loadFactor"), (0, u "F"), (5, u "threshold"), (0, u "I"), (0, .float 1061158912), (8, .class_ 103), (1, u "java/util/Map"), (0, u "size"), (2, u "table"), (0, u "[Ljava/util/HashMap$Node;"), (14, u "entrySet"), (39, .class_ 165), (1, u "java/util/HashMap$Node"), (14, .class_ 181), (0, u "java/util/HashMap$TreeNode"), (22, u "modCount"), (37, u "Ljava/util/Set;"), (0, .class_ 244), (0, u "java/util/HashMap$KeySet"), (18, .class_ 264), (0, u "java/util/HashMap$Values"), (3, .class_ 269), (0, u "java/util/HashMap$EntrySet"), (76, .class_ 348), (1, u "java/util/HashMap$UnsafeHolder"), (43, .class_ 393), (0, u "java/lang/Cloneable"), (0, .class_ 395), (0, u "java/io/Serializable"), (0, u "serialVersionUID"), (0, u "J"), (3, u "DEFAULT_INITIAL_CAPACITY"), (1, u "MAXIMUM_CAPACITY"), (0, u "DEFAULT_LOAD_FACTOR"), (0, u "TREEIFY_THRESHOLD"), (1, u "UNTREEIFY_THRESHOLD"), (1, u "MIN_TREEIFY_CAPACITY"), (186, .class_ 597), (0, u "java/util/HashMap$EntrySpliterator"), (0, .class_ 599), (0, u "java/util/HashMap$ValueSpliterator"), (0, .class_ 601), (0, u "java/util/HashMap$KeySpliterator"), (0, .class_ 603), (0, u "java/util/HashMap$HashMapSpliterator"), (0, .class_ 605), (0, u "java/util/HashMap$EntryIterator"), (0, .class_ 607), (0, u "java/util/HashMap$ValueIterator"), (0, .class_ 609), (0, u "java/util/HashMap$KeyIterator"), (0, .class_ 611), (0, u "java/util/HashMap$HashIterator")] 17

def k13c0 : Code := { maxStack := 2, maxLocals := 1, code := jdk_69_method_7_code, exceptionTable := #[], attributes := #[] }
def k13m0 : Method := { name := "<init>", desc := "()V", sig := { parameters := [], returnType := none }, accessFlags := 1, code := some k13c0 }
/-- java/util/HashMap -/
def k13 : Class := { plain "java/util/HashMap" (some 11) with
  accessFlags := 33
  interfaces := #[10, 12, 2]
  cf := some (fileOf pool13 40 #[.nestMembers #[180, 596, 598, 600, 602, 604, 606, 608, 610, 346, 268, 263, 243, 163]] #[{ accessFlags := 1, nameIndex := 47, descriptorIndex := 48, attributes := #[] }] 33 44 #[101, 392, 394] #[{ accessFlags := 26, nameIndex := 396, descriptorIndex := 397, attributes := #[] }, { accessFlags := 24, nameIndex := 401, descriptorIndex := 91, attributes := #[] }, { accessFlags := 24, nameIndex := 403, descriptorIndex := 91, attributes := #[] }, { accessFlags := 24, nameIndex := 404, descriptorIndex := 84, attributes := #[] }, { accessFlags := 24, nameIndex := 405, descriptorIndex := 91, attributes := #[] }, { accessFlags := 24, nameIndex := 407, descriptorIndex := 91, attributes := #[] }, { accessFlags := 24, nameIndex := 409, descriptorIndex := 91, attributes := #[] }, { accessFlags := 128, nameIndex := 107, descriptorIndex := 108, attributes := #[] }, { accessFlags := 128, nameIndex := 123, descriptorIndex := 242, attributes := #[] }, { accessFlags := 128, nameIndex := 104, descriptorIndex := 91, attributes := #[] }, { accessFlags := 128, nameIndex := 204, descriptorIndex := 91, attributes := #[] }, { accessFlags := 0, nameIndex := 90, descriptorIndex := 91, attributes := #[] }, { accessFlags := 16, nameIndex := 83, descriptorIndex := 84, attributes := #[] }])
  fields := #[{ name := "serialVersionUID", type := .long, accessFlags := 26, slot := 0, constantValue := 0 }, { name := "DEFAULT_INITIAL_CAPACITY", type := .int, accessFlags := 24, slot := 1, constantValue := 0 }, { name := "MAXIMUM_CAPACITY", type := .int, accessFlags := 24, slot := 2, constantValue := 0 }, { name := "DEFAULT_LOAD_FACTOR", type := .float, accessFlags := 24, slot := 3, constantValue := 0 }, { name := "TREEIFY_THRESHOLD", type := .int, accessFlags := 24, slot := 4, constantValue := 0 }, { name := "UNTREEIFY_THRESHOLD", type := .int, accessFlags := 24, slot := 5, constantValue := 0 }, { name := "MIN_TREEIFY_CAPACITY", type := .int, accessFlags := 24, slot := 6, constantValue := 0 }, { name := "table", type := (.array (.object "java/util/HashMap$Node")), accessFlags := 128, slot := 2, constantValue := 0 }, { name := "entrySet", type := (.object "java/util/Set"), accessFlags := 128, slot := 3, constantValue := 0 }, { name := "size", type := .int, accessFlags := 128, slot := 4, constantValue := 0 }, { name := "modCount", type := .int, accessFlags := 128, slot := 5, constantValue := 0 }, { name := "threshold", type := .int, accessFlags := 0, slot := 6, constantValue := 0 }, { name := "loadFactor", type := .float, accessFlags := 16, slot := 7, constantValue := 0 }]
  methods := #[k13m0]
  instanceTypes := #[(.object "java/util/Set"), (.object "java/util/Collection"), (.array (.object "java/util/HashMap$Node")), (.object "java/util/Set"), .int, .int, .int, .float]
  staticTypes := #[.long, .int, .int, .float, .int, .int, .int]
  resolved := Array.replicate 629 none
  statics := none }

def pool14 : Array CpInfo := pool [(2, .class_ 4), (1, u "java/util/SequencedMap"), (38, .class_ 44), (0, u "java/util/SequencedMap$1SeqKeySet"), (3, .class_ 49), (0, u "java/util/SequencedMap$1SeqValues"), (1, .class_ 52), (0, u "java/util/SequencedMap$1SeqEntrySet"), (1, .class_ 55), (0, u "java/lang/Object"), (0, .class_ 57), (0, u "java/util/Map")] 48

/-- java/util/SequencedMap -/
def k14 : Class := { plain "java/util/SequencedMap" (some 0) with
  accessFlags := 1537
  interfaces := #[10]
  cf := some (fileOf pool14 2 #[.nestMembers #[51, 48, 43]] #[] 1537 54 #[56] #[])
  fields := #[]
  methods := #[]
  instanceTypes := #[]
  staticTypes := #[]
  resolved := Array.replicate 106 none
  statics := none }

def pool15 : Array CpInfo := pool [(1, .fieldref 2 3), (0, .class_ 4), (0, .nameAndType 5 6), (0, u "java/util/LinkedHashMap"), (0, u "putMode"), (0, u "I"), (2, u "head"), (0, u "Ljava/util/LinkedHashMap$Entry;"), (2, u "tail"), (1, .class_ 17), (1, u "java/util/LinkedHashMap$Entry"), (5, .class_ 25), (1, u "java/util/HashMap"), (1, u "()V"), (2, u "<init>"), (33, .fieldref 2 65), (0, .nameAndType 66 67), (0, u "accessOrder"), (0, u "Z"), (19, .methodref 23 88), (0, .nameAndType 30 27), (32, .class_ 122), (0, u "java/util/LinkedHashMap$LinkedKeySet"), (20, .class_ 144), (0, u "java/util/LinkedHashMap$LinkedValues"), (9, .class_ 155), (0, u "java/util/LinkedHashMap$LinkedEntrySet"), (44, .class_ 201), (0, u "java/util/LinkedHashMap$ReversedLinkedHashMapView"), (3, .class_ 206), (0, u "java/util/SequencedMap"), (0, u "serialVersionUID"), (0, u "J"), (5, u "PUT_NORM"), (1, u "PUT_FIRST"), (1, u "PUT_LAST"), (143, .class_ 363), (0, u "java/util/LinkedHashMap$LinkedEntryIterator"), (0, .class_ 365), (0, u "java/util/LinkedHashMap$LinkedValueIterator"), (0, .class_ 367), (0, u "java/util/LinkedHashMap$LinkedKeyIterator"), (0, .class_ 369), (0, u "java/util/LinkedHashMap$LinkedHashIterator")] 16

def k15c0 : Code := { maxStack := 2, maxLocals := 1, code := jdk_94_method_16_code, exceptionTable := #[], attributes := #[] }
def k15m0 : Method := { name := "<init>", desc := "()V", sig := { parameters := [], returnType := none }, accessFlags := 1, code := some k15c0 }
/-- java/util/LinkedHashMap -/
def k15 : Class := { plain "java/util/LinkedHashMap" (some 13) with
  accessFlags := 33
  interfaces := #[14]
  cf := some (fileOf pool15 2 #[.nestMembers #[200, 362, 364, 366, 368, 154, 143, 121, 15]] #[{ accessFlags := 1, nameIndex := 30, descriptorIndex := 27, attributes := #[] }] 33 23 #[205] #[{ accessFlags := 26, nameIndex := 207, descriptorIndex := 208, attributes := #[] }, { accessFlags := 128, nameIndex := 9, descriptorIndex := 10, attributes := #[] }, { accessFlags := 128, nameIndex := 13, descriptorIndex := 10, attributes := #[] }, { accessFlags := 16, nameIndex := 66, descriptorIndex := 67, attributes := #[] }, { accessFlags := 24, nameIndex := 214, descriptorIndex := 6, attributes := #[] }, { accessFlags := 24, nameIndex := 216, descriptorIndex := 6, attributes := #[] }, { accessFlags := 24, nameIndex := 218, descriptorIndex := 6, attributes := #[] }, { accessFlags := 128, nameIndex := 5, descriptorIndex := 6, attributes := #[] }])
  fields := #[{ name := "serialVersionUID", type := .long, accessFlags := 26, slot := 0, constantValue := 0 }, { name := "head", type := (.object "java/util/LinkedHashMap$Entry"), accessFlags := 128, slot := 8, constantValue := 0 }, { name := "tail", type := (.object "java/util/LinkedHashMap$Entry"), accessFlags := 128, slot := 9, constantValue := 0 }, { name := "accessOrder", type := .boolean, accessFlags := 16, slot := 10, constantValue := 0 }, { name := "PUT_NORM", type := .int, accessFlags := 24, slot := 1, constantValue := 0 }, { name := "PUT_FIRST", type := .int, accessFlags := 24, slot := 2, constantValue := 0 }, { name := "PUT_LAST", type := .int, accessFlags := 24, slot := 3, constantValue := 0 }, { name := "putMode", type := .int, accessFlags := 128, slot := 11, constantValue := 0 }]
  methods := #[k15m0]
  instanceTypes := #[(.object "java/util/Set"), (.object "java/util/Collection"), (.array (.object "java/util/HashMap$Node")), (.object "java/util/Set"), .int, .int, .int, .float, (.object "java/util/LinkedHashMap$Entry"), (.object "java/util/LinkedHashMap$Entry"), .boolean, .int]
  staticTypes := #[.long, .int, .int, .int]
  resolved := Array.replicate 386 none
  statics := none }

def pool16 : Array CpInfo := pool [(4, .class_ 6), (1, u "java/lang/Object"), (0, u "<init>"), (0, u "()V"), (5, .class_ 16), (1, u "java/lang/StringLatin1"), (104, u "$assertionsDisabled"), (0, u "Z"), (98, .class_ 223), (1, u "java/lang/StringLatin1$LinesSpliterator"), (166, .class_ 391), (0, u "java/lang/StringLatin1$CharsSpliterator")] 3

def k16m0 : Method := { name := "<init>", desc := "()V", sig := { parameters := [], returnType := none }, accessFlags := 0, code := none }
/-- java/lang/StringLatin1 -/
def k16 : Class := { plain "java/lang/StringLatin1" (some 0) with
  accessFlags := 48
  interfaces := #[]
  cf := some (fileOf pool16 14 #[.nestMembers #[390, 221]] #[{ accessFlags := 0, nameIndex := 7, descriptorIndex := 8, attributes := #[] }] 48 4 #[] #[{ accessFlags := 4120, nameIndex := 121, descriptorIndex := 122, attributes := #[] }])
  fields := #[{ name := "$assertionsDisabled", type := .boolean, accessFlags := 4120, slot := 0, constantValue := 0 }]
  methods := #[k16m0]
  instanceTypes := #[]
  staticTypes := #[.boolean]
  resolved := Array.replicate 395 none
  statics := none }

def pool17 : Array CpInfo := pool [(2, .class_ 4), (1, u "java/lang/Object"), (0, u "<init>"), (0, u "()V"), (17, .class_ 26), (1, u "jdk/internal/util/Preconditions"), (28, .class_ 56), (0, u "jdk/internal/util/Preconditions$4"), (57, .class_ 115), (0, u "jdk/internal/util/Preconditions$1"), (7, u "SIOOBE_FORMATTER"), (0, u "Ljava/util/function/BiFunction;"), (0, .class_ 126), (0, u "jdk/internal/util/Preconditions$2"), (3, u "AIOOBE_FORMATTER"), (0, .class_ 132), (0, u "jdk/internal/util/Preconditions$3"), (3, u "IOOBE_FORMATTER")] 57

def k17m0 : Method := { name := "<init>", desc := "()V", sig := { parameters := [], returnType := none }, accessFlags := 1, code := none }
/-- jdk/internal/util/Preconditions -/
def k17 : Class := { plain "jdk/internal/util/Preconditions" (some 0) with
  accessFlags := 33
  interfaces := #[]
  cf := some (fileOf pool17 24 #[.nestMembers #[55, 131, 125, 114]] #[{ accessFlags := 1, nameIndex := 5, descriptorIndex := 6, attributes := #[] }] 33 2 #[] #[{ accessFlags := 25, nameIndex := 123, descriptorIndex := 124, attributes := #[] }, { accessFlags := 25, nameIndex := 130, descriptorIndex := 124, attributes := #[] }, { accessFlags := 25, nameIndex := 136, descriptorIndex := 124, attributes := #[] }])
  fields := #[{ name := "SIOOBE_FORMATTER", type := (.object "java/util/function/BiFunction"), accessFlags := 25, slot := 0, constantValue := 0 }, { name := "AIOOBE_FORMATTER", type := (.object "java/util/function/BiFunction"), accessFlags := 25, slot := 1, constantValue := 0 }, { name := "IOOBE_FORMATTER", type := (.object "java/util/function/BiFunction"), accessFlags := 25, slot := 2, constantValue := 0 }]
  methods := #[k17m0]
  instanceTypes := #[]
  staticTypes := #[(.object "java/util/function/BiFunction"), (.object "java/util/function/BiFunction"), (.object "java/util/function/BiFunction")]
  resolved := Array.replicate 194 none
  statics := some 1 }

def pool18 : Array CpInfo := pool [(9, u "<init>"), (6, .class_ 18), (1, u "java/lang/Object"), (0, u "()V"), (1, .class_ 23), (1, u "jdk/internal/util/ArraysSupport"), (0, u "LOG2_ARRAY_LONG_INDEX_SCALE"), (0, u "I"), (2, u "U"), (0, u "Ljdk/internal/misc/Unsafe;"), (8, u "BIG_ENDIAN"), (0, u "Z"), (8, u "LOG2_BYTE_BIT_SIZE"), (4, u "LOG2_ARRAY_INT_INDEX_SCALE"), (54, u "JLA"), (0, u "Ljdk/internal/access/JavaLangAccess;"), (11, u "LOG2_ARRAY_BOOLEAN_INDEX_SCALE"), (9, u "LOG2_ARRAY_BYTE_INDEX_SCALE"), (5, u "LOG2_ARRAY_CHAR_INDEX_SCALE"), (5, u "LOG2_ARRAY_SHORT_INDEX_SCALE"), (18, u "LOG2_ARRAY_FLOAT_INDEX_SCALE"), (24, u "LOG2_ARRAY_DOUBLE_INDEX_SCALE"), (89, u "T_BOOLEAN"), (2, u "T_CHAR"), (1, u "T_FLOAT"), (1, u "T_DOUBLE"), (1, u "T_BYTE"), (1, u "T_SHORT"), (1, u "T_INT"), (1, u "T_LONG"), (1, u "SOFT_MAX_ARRAY_LENGTH")] 83

def k18m0 : Method := { name := "<init>", desc := "()V", sig := { parameters := [], returnType := none }, accessFlags := 2, code := none }
/-- jdk/internal/util/ArraysSupport -/
def k18 : Class := { plain "jdk/internal/util/ArraysSupport" (some 0) with
  accessFlags := 33
  interfaces := #[]
  cf := some (fileOf pool18 21 #[] #[{ accessFlags := 2, nameIndex := 9, descriptorIndex := 19, attributes := #[] }] 33 16 #[] #[{ accessFlags := 24, nameIndex := 28, descriptorIndex := 29, attributes := #[] }, { accessFlags := 26, nameIndex := 38, descriptorIndex := 39, attributes := #[] }, { accessFlags := 25, nameIndex := 121, descriptorIndex := 25, attributes := #[] }, { accessFlags := 25, nameIndex := 131, descriptorIndex := 25, attributes := #[] }, { accessFlags := 25, nameIndex := 137, descriptorIndex := 25, attributes := #[] }, { accessFlags := 25, nameIndex := 143, descriptorIndex := 25, attributes := #[] }, { accessFlags := 25, nameIndex := 53, descriptorIndex := 25, attributes := #[] }, { accessFlags := 25, nameIndex := 24, descriptorIndex := 25, attributes := #[] }, { accessFlags := 25, nameIndex := 162, descriptorIndex := 25, attributes := #[] }, { accessFlags := 25, nameIndex := 187, descriptorIndex := 25, attributes := #[] }, { accessFlags := 26, nameIndex := 48, descriptorIndex := 25, attributes := #[] }, { accessFlags := 25, nameIndex := 277, descriptorIndex := 25, attributes := #[] }, { accessFlags := 25, nameIndex := 280, descriptorIndex := 25, attributes := #[] }, { accessFlags := 25, nameIndex := 282, descriptorIndex := 25, attributes := #[] }, { accessFlags := 25, nameIndex := 284, descriptorIndex := 25, attributes := #[] }, { accessFlags := 25, nameIndex := 286, descriptorIndex := 25, attributes := #[] }, { accessFlags := 25, nameIndex := 288, descriptorIndex := 25, attributes := #[] }, { accessFlags := 25, nameIndex := 290, descriptorIndex := 25, attributes := #[] }, { accessFlags := 25, nameIndex := 292, descriptorIndex := 25, attributes := #[] }, { accessFlags := 26, nameIndex := 108, descriptorIndex := 109, attributes := #[] }, { accessFlags := 25, nameIndex := 294, descriptorIndex := 25, attributes := #[] }])
  fields := #[{ name := "U", type := (.object "jdk/internal/misc/Unsafe"), accessFlags := 24, slot := 0, constantValue := 0 }, { name := "BIG_ENDIAN", type := .boolean, accessFlags := 26, slot := 1, constantValue := 0 }, { name := "LOG2_ARRAY_BOOLEAN_INDEX_SCALE", type := .int, accessFlags := 25, slot := 2, constantValue := 0 }, { name := "LOG2_ARRAY_BYTE_INDEX_SCALE", type := .int, accessFlags := 25, slot := 3, constantValue := 0 }, { name := "LOG2_ARRAY_CHAR_INDEX_SCALE", type := .int, accessFlags := 25, slot := 4, constantValue := 0 }, { name := "LOG2_ARRAY_SHORT_INDEX_SCALE", type := .int, accessFlags := 25, slot := 5, constantValue := 0 }, { name := "LOG2_ARRAY_INT_INDEX_SCALE", type := .int, accessFlags := 25, slot := 6, constantValue := 0 }, { name := "LOG2_ARRAY_LONG_INDEX_SCALE", type := .int, accessFlags := 25, slot := 7, constantValue := 0 }, { name := "LOG2_ARRAY_FLOAT_INDEX_SCALE", type := .int, accessFlags := 25, slot := 8, constantValue := 0 }, { name := "LOG2_ARRAY_DOUBLE_INDEX_SCALE", type := .int, accessFlags := 25, slot := 9, constantValue := 0 }, { name := "LOG2_BYTE_BIT_SIZE", type := .int, accessFlags := 26, slot := 10, constantValue := 0 }, { name := "T_BOOLEAN", type := .int, accessFlags := 25, slot := 11, constantValue := 0 }, { name := "T_CHAR", type := .int, accessFlags := 25, slot := 12, constantValue := 0 }, { name := "T_FLOAT", type := .int, accessFlags := 25, slot := 13, constantValue := 0 }, { name := "T_DOUBLE", type := .int, accessFlags := 25, slot := 14, constantValue := 0 }, { name := "T_BYTE", type := .int, accessFlags := 25, slot := 15, constantValue := 0 }, { name := "T_SHORT", type := .int, accessFlags := 25, slot := 16, constantValue := 0 }, { name := "T_INT", type := .int, accessFlags := 25, slot := 17, constantValue := 0 }, { name := "T_LONG", type := .int, accessFlags := 25, slot := 18, constantValue := 0 }, { name := "JLA", type := (.object "jdk/internal/access/JavaLangAccess"), accessFlags := 26, slot := 19, constantValue := 0 }, { name := "SOFT_MAX_ARRAY_LENGTH", type := .int, accessFlags := 25, slot := 20, constantValue := 0 }]
  methods := #[k18m0]
  instanceTypes := #[]
  staticTypes := #[(.object "jdk/internal/misc/Unsafe"), .boolean, .int, .int, .int, .int, .int, .int, .int, .int, .int, .int, .int, .int, .int, .int, .int, .int, .int, (.object "jdk/internal/access/JavaLangAccess"), .int]
  resolved := Array.replicate 378 none
  statics := none }

/-- the primitive byte -/
def k19 : Class := { plain "byte" none with kind := .primitive 'B', accessFlags := 0x411 }
/-- [B -/
def k20 : Class := { plain "[B" (some 0) with kind := .array 19 .byte, interfaces := #[12, 2], accessFlags := 1041 }

/-- the primitive char -/
def k21 : Class := { plain "char" none with kind := .primitive 'C', accessFlags := 0x411 }
/-- [C -/
def k22 : Class := { plain "[C" (some 0) with kind := .array 21 .char, interfaces := #[12, 2], accessFlags := 1041 }

/-- the primitive int -/
def k23 : Class := { plain "int" none with kind := .primitive 'I', accessFlags := 0x411 }
/-- [I -/
def k24 : Class := { plain "[I" (some 0) with kind := .array 23 .int, interfaces := #[12, 2], accessFlags := 1041 }

def heap : Heap := #[{ cls := 7, slots := #[.long 0, .int 1, .null, .int 0, .null, .int 0, .int 0], vm := .statics 7 },
  { cls := 17, slots := #[.null, .null, .null], vm := .statics 17 }]
def classes : Array Class := #[k0, k1, k2, k3, k4, k5, k6, k7, k8, k9, k10, k11, k12, k13, k14, k15, k16, k17, k18, k19, k20, k21, k22, k23, k24]
def interned : List (Array UInt16 × Addr) := []
def slotsUsed : Nat := 10
def theMethod : MethodId := ⟨1, 1⟩
def args0 : Array Value := #[.int 5, .int 300, .int 7]
def aboutOver (below : List Frame) : State where
  vm := { classes := classes, interned := interned.toArray }
  heap := heap
  slotsUsed := slotsUsed
  threads := #[{ frames := .invoking theMethod args0 :: below }]
def below0 : List Frame := [.native { method := ⟨0, 0⟩, args := #[] }]
def about1 : State := aboutOver below0
def p0 : Program := .bare "" "" ""
def e0 : Env := launch0.env 0 0 0
theorem w_frames : about1.frames = Frame.invoking theMethod args0 :: below0 := rfl
set_option maxRecDepth 65536 in
theorem w_args : argsFit about1.vm theMethod args0 = true := by decide +kernel
set_option maxRecDepth 65536 in
theorem w_heap : heapFits about1 = true := by decide +kernel
set_option maxRecDepth 65536 in
theorem w_runnable : about1.curStatus? = some .runnable := by decide +kernel
set_option maxRecDepth 65536 in
theorem w_alone : about1.alone = true := by decide +kernel
set_option maxRecDepth 65536 in
theorem w_named : about1.methodNamed? x = some theMethod := by decide +kernel
set_option maxRecDepth 65536 in
theorem w_hears : about1.hears theMethod below0 = true := by decide +kernel
set_option maxRecDepth 65536 in
theorem w_ripe : about1.ripe theMethod args0 below0 = true := by decide +kernel
theorem w_running : about1.status = .running := rfl
set_option maxRecDepth 65536 in
theorem w_room : about1.hasRoom e0.platform room_1 = true :=
  launch0.hasRoom_least _ room_1 (by decide +kernel) (by decide +kernel) (by decide +kernel) (by decide +kernel) (by decide +kernel) (by decide +kernel)
theorem allAtoms_all (ts : List Jvm.Cond) (a : Array Jvm.Value) (st : Jvm.State) : (allAtoms ts).before a st = ts.all (fun c => c.before a st) := by
  induction ts with
  | nil => rfl
  | cons c t ih =>
    show (Jvm.Cond.and c (allAtoms t)).before a st = _
    rw [Jvm.Cond.before_and, ih, List.all_cons]
def words1 : List Jvm.Cond := Jvm.Cond.code x code maxLocals ret :: tables_1
/-- a 'code' word, met by the world's own term for the bytes: nothing is compared byte by byte -/
theorem code_word {y : MethodName} {bytes : ByteArray} {mx : Nat} {rt : Option FieldType} {a : Array Value} {s : State} {m : MethodId} {meth : Method} {c : Code} (h1 : s.methodNamed? y = some m) (h2 : s.vm.method? m = some meth) (h3 : meth.code = some c) (h4 : c.code = bytes)
    (h5 : (c.maxLocals == mx && c.exceptionTable.isEmpty && decide (c.maxStack ≤ mostOperands) && decide (meth.sig.returnType = rt) && !meth.locks && decide (parseMethodDescriptor y.desc = some meth.sig)) = true) : (Jvm.Cond.code y bytes mx rt).before a s = true := by
  simp only [Bool.and_eq_true, beq_iff_eq, Bool.not_eq_true', decide_eq_true_eq] at h5
  obtain ⟨⟨⟨⟨⟨g1, g2⟩, g3⟩, g4⟩, g5⟩, g6⟩ := h5
  simp [Cond.before, Cond.holds, Cond.value, h1, h2, h3, h4, g1, g2, g3, g4, g5, g6]
def isCode : Jvm.Cond → Bool
  | .code _ _ _ _ => true
  | _ => false
theorem all_split {L : List Jvm.Cond} {P : Jvm.Cond → Bool} (h1 : L.all (fun c => isCode c || P c) = true) (h2 : ∀ c ∈ L.filter isCode, P c = true) : L.all P = true := by
  refine List.all_eq_true.mpr fun c hc => ?_
  have h := List.all_eq_true.mp h1 c hc
  rcases Bool.eq_false_or_eq_true (isCode c) with hi | hi
  · exact h2 c (List.mem_filter.mpr ⟨hc, hi⟩)
  · simpa [hi] using h
set_option maxRecDepth 65536 in
theorem w_c0 : (Jvm.Cond.code x code maxLocals ret).before args0 about1 = true := code_word (m := ⟨1, 1⟩) (meth := k1m1) (c := k1c1) (by decide +kernel) rfl rfl rfl (by decide +kernel)
set_option maxRecDepth 65536 in
theorem w_c1 : (Jvm.Cond.code ({ cls := "java/lang/String", name := "<init>", desc := "([C)V" } : Jvm.MethodName) jdk_42_method_3_code (2 : Nat) (Option.none : Option Jvm.ClassFile.FieldType)).before args0 about1 = true := code_word (m := ⟨7, 1⟩) (meth := k7m1) (c := k7c1) (by decide +kernel) rfl rfl rfl (by decide +kernel)
set_option maxRecDepth 65536 in
theorem w_c2 : (Jvm.Cond.code ({ cls := "java/lang/String", name := "<init>", desc := "([CIILjava/lang/Void;)V" } : Jvm.MethodName) jdk_42_method_149_code (6 : Nat) (Option.none : Option Jvm.ClassFile.FieldType)).before args0 about1 = true := code_word (m := ⟨7, 2⟩) (meth := k7m2) (c := k7c2) (by decide +kernel) rfl rfl rfl (by decide +kernel)
set_option maxRecDepth 65536 in
theorem w_c3 : (Jvm.Cond.code ({ cls := "java/lang/Object", name := "<init>", desc := "()V" } : Jvm.MethodName) object_method_1_code (1 : Nat) (Option.none : Option Jvm.ClassFile.FieldType)).before args0 about1 = true := code_word (m := ⟨0, 0⟩) (meth := k0m0) (c := k0c0) (by decide +kernel) rfl rfl rfl (by decide +kernel)
set_option maxRecDepth 65536 in
theorem w_c4 : (Jvm.Cond.code ({ cls := "java/lang/StringUTF16", name := "compress", desc := "([CII)[B" } : Jvm.MethodName) jdk_52_method_16_code (6 : Nat) (Option.some (Jvm.ClassFile.FieldType.array Jvm.ClassFile.FieldType.byte))).before args0 about1 = true := code_word (m := ⟨8, 2⟩) (meth := k8m2) (c := k8c2) (by decide +kernel) rfl rfl rfl (by decide +kernel)
set_option maxRecDepth 65536 in
theorem w_c5 : (Jvm.Cond.code ({ cls := "java/lang/StringUTF16", name := "compress", desc := "([CI[BII)I" } : Jvm.MethodName) jdk_52_method_21_code (7 : Nat) (Option.some Jvm.ClassFile.FieldType.int)).before args0 about1 = true := code_word (m := ⟨8, 3⟩) (meth := k8m3) (c := k8c3) (by decide +kernel) rfl rfl rfl (by decide +kernel)
set_option maxRecDepth 65536 in
theorem w_c6 : (Jvm.Cond.code ({ cls := "java/lang/StringUTF16", name := "coderFromArrayLen", desc := "([BI)B" } : Jvm.MethodName) jdk_52_method_15_code (2 : Nat) (Option.some Jvm.ClassFile.FieldType.byte)).before args0 about1 = true := code_word (m := ⟨8, 1⟩) (meth := k8m1) (c := k8c1) (by decide +kernel) rfl rfl rfl (by decide +kernel)
set_option maxRecDepth 65536 in
theorem w_c7 : (Jvm.Cond.code ({ cls := "com/example/phlow/phlow/policy/PolicyClass", name := "<init>", desc := "(Ljava/lang/String;)V" } : Jvm.MethodName) prog_36_method_1_code (2 : Nat) (Option.none : Option Jvm.ClassFile.FieldType)).before args0 about1 = true := code_word (m := ⟨9, 0⟩) (meth := k9m0) (c := k9c0) (by decide +kernel) rfl rfl rfl (by decide +kernel)
set_option maxRecDepth 65536 in
theorem w_c8 : (Jvm.Cond.code ({ cls := "java/util/LinkedHashMap", name := "<init>", desc := "()V" } : Jvm.MethodName) jdk_94_method_16_code (1 : Nat) (Option.none : Option Jvm.ClassFile.FieldType)).before args0 about1 = true := code_word (m := ⟨15, 0⟩) (meth := k15m0) (c := k15c0) (by decide +kernel) rfl rfl rfl (by decide +kernel)
set_option maxRecDepth 65536 in
theorem w_c9 : (Jvm.Cond.code ({ cls := "java/util/HashMap", name := "<init>", desc := "()V" } : Jvm.MethodName) jdk_69_method_7_code (1 : Nat) (Option.none : Option Jvm.ClassFile.FieldType)).before args0 about1 = true := code_word (m := ⟨13, 0⟩) (meth := k13m0) (c := k13c0) (by decide +kernel) rfl rfl rfl (by decide +kernel)
set_option maxRecDepth 65536 in
theorem w_c10 : (Jvm.Cond.code ({ cls := "java/util/AbstractMap", name := "<init>", desc := "()V" } : Jvm.MethodName) jdk_71_method_1_code (1 : Nat) (Option.none : Option Jvm.ClassFile.FieldType)).before args0 about1 = true := code_word (m := ⟨11, 0⟩) (meth := k11m0) (c := k11c0) (by decide +kernel) rfl rfl rfl (by decide +kernel)
set_option maxRecDepth 65536 in
theorem w_c11 : (Jvm.Cond.code ({ cls := "com/example/phlow/phlow/policy/PolicyClass", name := "isForeign", desc := "()Z" } : Jvm.MethodName) prog_36_method_3_code (1 : Nat) (Option.some Jvm.ClassFile.FieldType.boolean)).before args0 about1 = true := code_word (m := ⟨9, 2⟩) (meth := k9m2) (c := k9c2) (by decide +kernel) rfl rfl rfl (by decide +kernel)
set_option maxRecDepth 65536 in
theorem w_c12 : (Jvm.Cond.code ({ cls := "com/example/phlow/phlow/policy/PolicyClass", name := "markForeign", desc := "()Z" } : Jvm.MethodName) prog_36_method_10_code (2 : Nat) (Option.some Jvm.ClassFile.FieldType.boolean)).before args0 about1 = true := code_word (m := ⟨9, 3⟩) (meth := k9m3) (c := k9c3) (by decide +kernel) rfl rfl rfl (by decide +kernel)
set_option maxRecDepth 65536 in
theorem w_c13 : (Jvm.Cond.code ({ cls := "com/example/phlow/phlow/policy/PolicyClass", name := "name", desc := "()Ljava/lang/String;" } : Jvm.MethodName) prog_36_method_2_code (1 : Nat) (Option.some (Jvm.ClassFile.FieldType.object "java/lang/String"))).before args0 about1 = true := code_word (m := ⟨9, 1⟩) (meth := k9m1) (c := k9c1) (by decide +kernel) rfl rfl rfl (by decide +kernel)
def codes1 : List Jvm.Cond := [Jvm.Cond.code x code maxLocals ret, Jvm.Cond.code ({ cls := "java/lang/String", name := "<init>", desc := "([C)V" } : Jvm.MethodName) jdk_42_method_3_code (2 : Nat) (Option.none : Option Jvm.ClassFile.FieldType), Jvm.Cond.code ({ cls := "java/lang/String", name := "<init>", desc := "([CIILjava/lang/Void;)V" } : Jvm.MethodName) jdk_42_method_149_code (6 : Nat) (Option.none : Option Jvm.ClassFile.FieldType), Jvm.Cond.code ({ cls := "java/lang/Object", name := "<init>", desc := "()V" } : Jvm.MethodName) object_method_1_code (1 : Nat) (Option.none : Option Jvm.ClassFile.FieldType), Jvm.Cond.code ({ cls := "java/lang/StringUTF16", name := "compress", desc := "([CII)[B" } : Jvm.MethodName) jdk_52_method_16_code (6 : Nat) (Option.some (Jvm.ClassFile.FieldType.array Jvm.ClassFile.FieldType.byte)), Jvm.Cond.code ({ cls := "java/lang/StringUTF16", name := "compress", desc := "([CI[BII)I" } : Jvm.MethodName) jdk_52_method_21_code (7 : Nat) (Option.some Jvm.ClassFile.FieldType.int), Jvm.Cond.code ({ cls := "java/lang/StringUTF16", name := "coderFromArrayLen", desc := "([BI)B" } : Jvm.MethodName) jdk_52_method_15_code (2 : Nat) (Option.some Jvm.ClassFile.FieldType.byte), Jvm.Cond.code ({ cls := "com/example/phlow/phlow/policy/PolicyClass", name := "<init>", desc := "(Ljava/lang/String;)V" } : Jvm.MethodName) prog_36_method_1_code (2 : Nat) (Option.none : Option Jvm.ClassFile.FieldType), Jvm.Cond.code ({ cls := "java/util/LinkedHashMap", name := "<init>", desc := "()V" } : Jvm.MethodName) jdk_94_method_16_code (1 : Nat) (Option.none : Option Jvm.ClassFile.FieldType), Jvm.Cond.code ({ cls := "java/util/HashMap", name := "<init>", desc := "()V" } : Jvm.MethodName) jdk_69_method_7_code (1 : Nat) (Option.none : Option Jvm.ClassFile.FieldType), Jvm.Cond.code ({ cls := "java/util/AbstractMap", name := "<init>", desc := "()V" } : Jvm.MethodName) jdk_71_method_1_code (1 : Nat) (Option.none : Option Jvm.ClassFile.FieldType), Jvm.Cond.code ({ cls := "com/example/phlow/phlow/policy/PolicyClass", name := "isForeign", desc := "()Z" } : Jvm.MethodName) prog_36_method_3_code (1 : Nat) (Option.some Jvm.ClassFile.FieldType.boolean), Jvm.Cond.code ({ cls := "com/example/phlow/phlow/policy/PolicyClass", name := "markForeign", desc := "()Z" } : Jvm.MethodName) prog_36_method_10_code (2 : Nat) (Option.some Jvm.ClassFile.FieldType.boolean), Jvm.Cond.code ({ cls := "com/example/phlow/phlow/policy/PolicyClass", name := "name", desc := "()Ljava/lang/String;" } : Jvm.MethodName) prog_36_method_2_code (1 : Nat) (Option.some (Jvm.ClassFile.FieldType.object "java/lang/String"))]
set_option maxRecDepth 65536 in
theorem codes_eq : words1.filter isCode = codes1 := rfl
theorem w_codes : ∀ c ∈ words1.filter isCode, c.before args0 about1 = true := by
  rw [codes_eq]
  intro c hc
  simp only [codes1, List.mem_cons, List.not_mem_nil, or_false] at hc
  rcases hc with rfl | rfl | rfl | rfl | rfl | rfl | rfl | rfl | rfl | rfl | rfl | rfl | rfl | rfl
  · exact w_c0
  · exact w_c1
  · exact w_c2
  · exact w_c3
  · exact w_c4
  · exact w_c5
  · exact w_c6
  · exact w_c7
  · exact w_c8
  · exact w_c9
  · exact w_c10
  · exact w_c11
  · exact w_c12
  · exact w_c13
set_option maxRecDepth 65536 in
theorem w_t1 : (words1.take 24).all (fun c => isCode c || c.before args0 about1) = true := by decide +kernel
set_option maxRecDepth 65536 in
theorem w_t2 : ((words1.drop 24).take 24).all (fun c => isCode c || c.before args0 about1) = true := by decide +kernel
set_option maxRecDepth 65536 in
theorem w_t3 : (((words1.drop 24).drop 24).take 24).all (fun c => isCode c || c.before args0 about1) = true := by decide +kernel
set_option maxRecDepth 65536 in
theorem w_t4 : (((words1.drop 24).drop 24).drop 24).all (fun c => isCode c || c.before args0 about1) = true := by decide +kernel
theorem w_tables : (allAtoms (Jvm.Cond.code x code maxLocals ret :: tables_1)).before args0 about1 = true := by
  rw [allAtoms_all]
  show words1.all (fun c => c.before args0 about1) = true
  refine all_split ?_ w_codes
  rw [← List.take_append_drop 24 words1, List.all_append, w_t1, ← List.take_append_drop 24 (words1.drop 24), List.all_append, w_t2, ← List.take_append_drop 24 ((words1.drop 24).drop 24), List.all_append, w_t3, w_t4]
  rfl
set_option maxRecDepth 65536 in
theorem w_rest : rest_1_c.before args0 about1 = true := by decide +kernel
set_option maxRecDepth 65536 in
theorem w_case : (Jvm.Cond.and given_1 narrow_1).before args0 about1 = true := by decide +kernel
theorem w_applies : (headSpec (Jvm.Cond.code x code maxLocals ret :: tables_1) room_1).applies x e0.platform about1 = true :=
  (Spec.applies_iff w_frames).mpr ⟨w_running, w_runnable, w_alone, w_named, w_hears, w_ripe, w_room, w_tables⟩
theorem atStart : AtStart classFile x code maxLocals ret World_1 tables_1 room_1 Calls_1 rest_1 Pre_1 launch0 p0 e0 about1 theMethod args0 below0 :=
  ⟨lists_1, trivial, launch0.admits_env _ _ _, launch0.least_env, fairChoices_fair.cas, fairChoices_fair.clock, w_frames, w_args, w_heap, w_applies, trivial, w_rest, w_case⟩
end start1
theorem witness_1 : WitnessClaimed_1 := ⟨start1.p0, start1.e0, start1.about1, start1.theMethod, start1.args0, start1.below0, start1.atStart⟩
end Jvm.Pilot.@@N@@
