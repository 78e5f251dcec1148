import JvmDerived
import JvmDerived.Pilot.@@N@@Statement
import JvmDerived.Pilot.@@N@@Code
set_option linter.unusedVariables false
set_option linter.unusedSimpArgs false
/- laws to paste: Road.backV, Road.lenW, Road.chN, Road.codOf (cut by pick.py; bodies as the Statement names them) -/
namespace Jvm.Pilot.@@N@@
namespace StrChars
open Jvm Sem ClassFile Op Lib Jvm.Stand Jvm.Free.XT Jvm.Free.ALB Jvm.Free.JM Jvm.Free
open Jvm.Lib.Cold (StaticIs)
/-- a char array whose places are chars -/
def Ch (a : Addr) (A : Cell) (U : State) : Prop := Arr .char a A U ∧ Typed .char A
theorem Ch.mv {a : Addr} {A : Cell} {U U' : State} (h : Ch a A U) (hal : U.vm.Alike U'.vm) (hh : U'.heap = U.heap) : Ch a A U' := ⟨h.1.mv hal hh, h.2⟩
theorem Ch.keep {a : Addr} {A : Cell} {U U' : State} (h : Ch a A U) (hal : U.vm.Alike U'.vm) (hk : U'.heap[a]? = some A) : Ch a A U' := ⟨h.1.keep hal hk, h.2⟩
/-- what place i of a char[]'s cell holds -/
def cv (A : Cell) (i : Nat) : Int32 := match A.slots[i]? with | some (.int x) => x | _ => 0
theorem Ch.get {a : Addr} {A : Cell} {U : State} (h : Ch a A U) {i : Nat} (hi : i < A.slots.size) : A.slots[i]? = some (.int (cv A i)) := by
  have e := Array.getElem?_eq_getElem hi
  have f := h.2 i _ e
  unfold cv; rw [e]
  generalize A.slots[i] = v at f
  cases v <;> simp [fits] at f ⊢
/-- the byte that i2b leaves of a char -/
def lo8 (x : Int32) : Int32 := x.toInt8.toInt32
theorem fits_lo8 (y : Int32) : fits .byte (.int (lo8 y)) = true := by
  have h1 := y.toInt8.le_toInt
  have h2 := y.toInt8.toInt_lt
  simp only [lo8, fits, Bool.and_eq_true, decide_eq_true_eq, Int32.le_iff_toInt_le, Int8.toInt_toInt32, show (-128 : Int32).toInt = -128 from by decide, show (127 : Int32).toInt = 127 from by decide]
  omega
/-- A' is A but that each place j of lo .. hi - 1 holds f j -/
def Laid (A A' : Cell) (lo hi : Nat) (f : Nat → Value) : Prop := A'.cls = A.cls ∧ A'.vm = A.vm ∧ A'.slots.size = A.slots.size ∧ ∀ i, A'.slots[i]? = if lo ≤ i ∧ i < hi then some (f i) else A.slots[i]?
theorem Laid.zero (A : Cell) (lo : Nat) (f : Nat → Value) : Laid A A lo (lo + 0) f := ⟨rfl, rfl, rfl, fun i => by rw [if_neg (by omega)]⟩
theorem Laid.step {A Ak : Cell} {lo k : Nat} {f : Nat → Value} {v : Value} (h : Laid A Ak lo k f) (hlo : lo ≤ k) (hk : k < Ak.slots.size) (hv : v = f k) : Laid A (Ak.setSlot k v) lo (k + 1) f := by
  refine ⟨h.1, h.2.1, by simpa [Cell.setSlot] using h.2.2.1, fun i => ?_⟩
  by_cases e : k = i
  · subst e; rw [Cell.slots_setSlot_self v hk, if_pos (by omega), hv]
  · rw [Cell.slots_setSlot_ne v e, h.2.2.2 i]
    by_cases q : lo ≤ i ∧ i < k
    · rw [if_pos q, if_pos (by omega)]
    · rw [if_neg q, if_neg (by omega)]
def U16 : String := "java/lang/StringUTF16"
namespace Cmp5
def yN : MethodName := ⟨"java/lang/StringUTF16", "compress", "([CI[BII)I"⟩
abbrev yB : ByteArray := jdk_52_method_21_code
theorem d0 : decode yB 0 = .ok (.iconst 0, 1) := by decide +kernel
theorem d1 : decode yB 1 = .ok (.istore 5, 2) := by decide +kernel
theorem d3 : decode yB 3 = .ok (.iload 5, 2) := by decide +kernel
theorem d5 : decode yB 5 = .ok (.iload 4, 2) := by decide +kernel
theorem d7 : decode yB 7 = .ok (.if_icmp (.ge) 37, 3) := by decide +kernel
theorem d10 : decode yB 10 = .ok (.aload_n 0, 1) := by decide +kernel
theorem d11 : decode yB 11 = .ok (.iload_n 1, 1) := by decide +kernel
theorem d12 : decode yB 12 = .ok (.caload, 1) := by decide +kernel
theorem d13 : decode yB 13 = .ok (.istore 6, 2) := by decide +kernel
theorem d15 : decode yB 15 = .ok (.iload 6, 2) := by decide +kernel
theorem d17 : decode yB 17 = .ok (.sipush 255, 3) := by decide +kernel
theorem d20 : decode yB 20 = .ok (.if_icmp (.le) 6, 3) := by decide +kernel
theorem d26 : decode yB 26 = .ok (.aload_n 2, 1) := by decide +kernel
theorem d27 : decode yB 27 = .ok (.iload_n 3, 1) := by decide +kernel
theorem d28 : decode yB 28 = .ok (.iload 6, 2) := by decide +kernel
theorem d30 : decode yB 30 = .ok (.i2b, 1) := by decide +kernel
theorem d31 : decode yB 31 = .ok (.bastore, 1) := by decide +kernel
theorem d32 : decode yB 32 = .ok (.iinc 1 1, 3) := by decide +kernel
theorem d35 : decode yB 35 = .ok (.iinc 3 1, 3) := by decide +kernel
theorem d38 : decode yB 38 = .ok (.iinc 5 1, 3) := by decide +kernel
theorem d41 : decode yB 41 = .ok (.goto (-38), 3) := by decide +kernel
theorem d44 : decode yB 44 = .ok (.iload 4, 2) := by decide +kernel
theorem d46 : decode yB 46 = .ok (.ireturn, 1) := by decide +kernel
def site : List Cond := []
def tab : Cond := tabOf yN yB 7 (some .int) site
def P (b : Addr) (A : Cell) (d : Addr) (B : Cell) (o q len : Nat) (args : Array Value) (s : State) : Prop := args = #[.ref b, .int (Int32.ofNat o), .ref d, .int (Int32.ofNat q), .int (Int32.ofNat len)] ∧ Ch b A s ∧ Arr .byte d B s ∧ b ≠ d ∧ o + len ≤ A.slots.size ∧ q + len ≤ B.slots.size ∧ ∀ i, i < len → ¬ 255 < cv A (o + i)
def E (b : Addr) (A : Cell) (d : Addr) (B : Cell) (o q len : Nat) (r : Option Value) (s u : State) : Prop := r = some (.int (Int32.ofNat len)) ∧ ∃ B', Put d B' s u ∧ Laid B B' q (q + len) (fun j => Value.int (lo8 (cv A (o + (j - q)))))
/-- no char of the range above 255: len; the places written hold each char's low byte -/
theorem law (l : Launch) (b : Addr) (A : Cell) (d : Addr) (B : Cell) (o q len : Nat) : Law l yN 5 5 0 0 yB 7 (some .int) site (P b A d B o q len) (E b A d B o q len) (copyLocs d q len) 0 0 := by
  refine Law.of_walk (plainFor_of_name (by decide +kernel)) (by decide +kernel) (by decide +kernel) (by decide) (fun _ _ h => by rw [h.1]; rfl) (fun _ U U' hal hh h => ⟨h.1, h.2.1.mv hal hh, h.2.2.1.mv hal hh, h.2.2.2⟩) (fun r U U' V V' h1 hal h2 h => ⟨h.1, h.2.elim fun B' q => ⟨B', q.1.mv h1 h2, q.2⟩⟩) ?_
  intro p e s m args below meth c s₁ X0 hexec hbytes hml hret hlk hnm hown hh0 W hP
  obtain ⟨rfl, hA, hB, hne, l1, l2, hp⟩ := hP
  have c1 : Steps p.tables e below (s₁.setTop (entryFrame m #[.ref b, .int (Int32.ofNat o), .ref d, .int (Int32.ofNat q), .int (Int32.ofNat len)] 7)) (s₁.setTop (mkF m 0 #[.val (.ref b), .val (.int (Int32.ofNat o)), .val (.ref d), .val (.int (Int32.ofNat q)), .val (.int (Int32.ofNat len)), .unset, .unset] [])) := entry rfl
  have hA0 := hA.1.mv X0.warmed.alike hh0
  have hB0 := hB.mv X0.warmed.alike hh0
  have a31 := hA.1.2.2.2
  have c2 : Steps p.tables e below (s₁.setTop (entryFrame m #[.ref b, .int (Int32.ofNat o), .ref d, .int (Int32.ofNat q), .int (Int32.ofNat len)] 7)) (s₁.setTop (mkF m 3 #[.val (.ref b), .val (.int (Int32.ofNat o)), .val (.ref d), .val (.int (Int32.ofNat q)), .val (.int (Int32.ofNat len)), .val (.int 0), .unset] [])) := c1.trans (by
    refine iconstV X0.here hexec rfl 0 (hb hbytes d0) (by decide) ?_
    refine XS.istore X0.here hexec rfl (hb hbytes d1) rfl rfl ?_
    exact Steps.refl _)
  have loop : ∀ (r i : Nat), i + r = len → ∀ (z : Slot), (z = .unset ∨ ∃ w, z = .val w ∧ w.category = 1) → ∀ (Tl : State) (Bk : Cell), Stand p l e { frames := 0, locals := 0, cells := 0, slots := 0 } s m #[.ref b, .int (Int32.ofNat o), .ref d, .int (Int32.ofNat q), .int (Int32.ofNat len)] below meth c Tl ([] ++ copyLocs d q i) 0 0 → Put d Bk s₁ Tl → Laid B Bk q (q + i) (fun j => Value.int (lo8 (cv A (o + (j - q))))) →
      Steps p.tables e below (s₁.setTop (entryFrame m #[.ref b, .int (Int32.ofNat o), .ref d, .int (Int32.ofNat q), .int (Int32.ofNat len)] 7)) (Tl.setTop (mkF m 3 #[.val (.ref b), .val (.int (Int32.ofNat (o + i))), .val (.ref d), .val (.int (Int32.ofNat (q + i))), .val (.int (Int32.ofNat len)), .val (.int (Int32.ofNat i)), z] [])) → ∃ (T' : State) (B' : Cell) (z' : Slot), Stand p l e { frames := 0, locals := 0, cells := 0, slots := 0 } s m #[.ref b, .int (Int32.ofNat o), .ref d, .int (Int32.ofNat q), .int (Int32.ofNat len)] below meth c T' ([] ++ copyLocs d q len) 0 0 ∧ Put d B' s₁ T' ∧ Laid B B' q (q + len) (fun j => Value.int (lo8 (cv A (o + (j - q))))) ∧
      Steps p.tables e below (s₁.setTop (entryFrame m #[.ref b, .int (Int32.ofNat o), .ref d, .int (Int32.ofNat q), .int (Int32.ofNat len)] 7)) (T'.setTop (mkF m 3 #[.val (.ref b), .val (.int (Int32.ofNat (o + len))), .val (.ref d), .val (.int (Int32.ofNat (q + len))), .val (.int (Int32.ofNat len)), .val (.int (Int32.ofNat len)), z'] [])) := by
    intro r
    induction r with
    | zero =>
      intro i hi z hz Tl Bk Xl pl fl cl
      have hil : i = len := by omega
      rw [hil] at Xl fl cl
      exact ⟨Tl, Bk, z, Xl, pl, fl, cl⟩
    | succ r ih =>
      intro i hi z hz Tl Bk Xl pl fl cl
      have all := X0.warmed.alike.symm.trans Xl.warmed.alike
      have hAl := hA0.keep all (pl.other hne hA0.1)
      have hBk := hB0.like all pl.1 fl.1 fl.2.1 fl.2.2.1
      have hlt : q + i < Bk.slots.size := by rw [fl.2.2.1]; omega
      have c3 : Steps p.tables e below (s₁.setTop (entryFrame m #[.ref b, .int (Int32.ofNat o), .ref d, .int (Int32.ofNat q), .int (Int32.ofNat len)] 7)) (Tl.setTop (mkF m 12 #[.val (.ref b), .val (.int (Int32.ofNat (o + i))), .val (.ref d), .val (.int (Int32.ofNat (q + i))), .val (.int (Int32.ofNat len)), .val (.int (Int32.ofNat i)), z] [.int (Int32.ofNat (o + i)), .ref b])) := cl.trans (by
        refine XS.iload Xl.here hexec rfl (hb hbytes d3) rfl ?_
        refine XS.iload Xl.here hexec rfl (hb hbytes d5) rfl ?_
        refine XS.icmpNo Xl.here hexec rfl (hb hbytes d7) rfl (ii_ge_f (lt32 (by omega) (by omega))) ?_
        refine XS.aloadN Xl.here hexec rfl (hb hbytes d10) rfl rfl ?_
        refine XS.iloadN Xl.here hexec rfl (hb hbytes d11) rfl ?_
        exact Steps.refl _)
      have c4 : Steps p.tables e below (s₁.setTop (entryFrame m #[.ref b, .int (Int32.ofNat o), .ref d, .int (Int32.ofNat q), .int (Int32.ofNat len)] 7)) (Tl.setTop (mkF m 13 #[.val (.ref b), .val (.int (Int32.ofNat (o + i))), .val (.ref d), .val (.int (Int32.ofNat (q + i))), .val (.int (Int32.ofNat len)), .val (.int (Int32.ofNat i)), z] [.int (cv A (o + i))])) := c3.trans (by
        refine Xl.aget hexec hAl rfl (hA.get (i := o + i) (by omega)) rfl rfl (hb hbytes d12) ?_
        exact Steps.refl _)
      have c5 : Steps p.tables e below (s₁.setTop (entryFrame m #[.ref b, .int (Int32.ofNat o), .ref d, .int (Int32.ofNat q), .int (Int32.ofNat len)] 7)) (Tl.setTop (mkF m 15 #[.val (.ref b), .val (.int (Int32.ofNat (o + i))), .val (.ref d), .val (.int (Int32.ofNat (q + i))), .val (.int (Int32.ofNat len)), .val (.int (Int32.ofNat i)), .val (.int (cv A (o + i)))] [])) := c4.trans (by
        refine XS.istoreS Xl.here hexec rfl (hb hbytes d13) rfl rfl hz ?_
        exact Steps.refl _)
      have c6 : Steps p.tables e below (s₁.setTop (entryFrame m #[.ref b, .int (Int32.ofNat o), .ref d, .int (Int32.ofNat q), .int (Int32.ofNat len)] 7)) (Tl.setTop (mkF m 31 #[.val (.ref b), .val (.int (Int32.ofNat (o + i))), .val (.ref d), .val (.int (Int32.ofNat (q + i))), .val (.int (Int32.ofNat len)), .val (.int (Int32.ofNat i)), .val (.int (cv A (o + i)))] [.int (lo8 (cv A (o + i))), .int (Int32.ofNat (q + i)), .ref d])) := c5.trans (by
        refine XS.iload Xl.here hexec rfl (hb hbytes d15) rfl ?_
        refine sipushV Xl.here hexec rfl 255 (hb hbytes d17) (by decide) ?_
        refine XS.icmpYes Xl.here hexec rfl (pc0 := 20) rfl (hb hbytes d20) rfl (ii_le_t (hp i (by omega))) (by decide) rfl ?_
        refine XS.aloadN Xl.here hexec rfl (hb hbytes d26) rfl rfl ?_
        refine XS.iloadN Xl.here hexec rfl (hb hbytes d27) rfl ?_
        refine XS.iload Xl.here hexec rfl (hb hbytes d28) rfl ?_
        refine i2b Xl.here hexec rfl (hb hbytes d30) rfl ?_
        exact Steps.refl _)
      obtain ⟨T7, X7, p7, st7⟩ := Xl.aput hexec hBk rfl hlt rfl (fits_lo8 (cv A (o + i))) (g := (mkF m 31 #[.val (.ref b), .val (.int (Int32.ofNat (o + i))), .val (.ref d), .val (.int (Int32.ofNat (q + i))), .val (.int (Int32.ofNat len)), .val (.int (Int32.ofNat i)), .val (.int (cv A (o + i)))] [.int (lo8 (cv A (o + i))), .int (Int32.ofNat (q + i)), .ref d])) rfl (rest := []) rfl (hb hbytes d31)
      have c8 : Steps p.tables e below (s₁.setTop (entryFrame m #[.ref b, .int (Int32.ofNat o), .ref d, .int (Int32.ofNat q), .int (Int32.ofNat len)] 7)) (T7.setTop (mkF m 32 #[.val (.ref b), .val (.int (Int32.ofNat (o + i))), .val (.ref d), .val (.int (Int32.ofNat (q + i))), .val (.int (Int32.ofNat len)), .val (.int (Int32.ofNat i)), .val (.int (cv A (o + i)))] [])) := c6.trans (st7 _ (Steps.refl _))
      have c9 : Steps p.tables e below (s₁.setTop (entryFrame m #[.ref b, .int (Int32.ofNat o), .ref d, .int (Int32.ofNat q), .int (Int32.ofNat len)] 7)) (T7.setTop (mkF m 3 #[.val (.ref b), .val (.int (Int32.ofNat (o + i) + 1)), .val (.ref d), .val (.int (Int32.ofNat (q + i) + 1)), .val (.int (Int32.ofNat len)), .val (.int (Int32.ofNat i + 1)), .val (.int (cv A (o + i)))] [])) := c8.trans (by
        refine iincV X7.here hexec rfl 1 (hb hbytes d32) (by decide) rfl rfl ?_
        refine iincV X7.here hexec rfl 1 (hb hbytes d35) (by decide) rfl rfl ?_
        refine iincV X7.here hexec rfl 1 (hb hbytes d38) (by decide) rfl rfl ?_
        refine XS.goto X7.here hexec rfl (pc0 := 41) rfl (hb hbytes d41) (by decide) rfl ?_
        exact Steps.refl _)
      have c10 : Steps p.tables e below (s₁.setTop (entryFrame m #[.ref b, .int (Int32.ofNat o), .ref d, .int (Int32.ofNat q), .int (Int32.ofNat len)] 7)) (T7.setTop (mkF m 3 #[.val (.ref b), .val (.int (Int32.ofNat (o + (i + 1)))), .val (.ref d), .val (.int (Int32.ofNat (q + (i + 1)))), .val (.int (Int32.ofNat len)), .val (.int (Int32.ofNat (i + 1))), .val (.int (cv A (o + i)))] [])) := by
        have := c9
        rw [succ32, succ32, succ32] at this
        exact this
      exact ih (i + 1) (by omega) _ (Or.inr ⟨_, rfl, rfl⟩) T7 _ (by rw [copyLocs_step, ← List.append_assoc]; exact X7) (pl.trans p7) (fl.step (by omega) hlt (by simp)) c10
  obtain ⟨T9, B9, z9, X9, p9, f9, g9⟩ := loop len 0 (by omega) .unset (Or.inl rfl) s₁ B (by simpa [copyLocs] using X0) ⟨hB0.1, fun _ _ => rfl, rfl⟩ (Laid.zero _ _ _) c2
  have c11 : Steps p.tables e below (s₁.setTop (entryFrame m #[.ref b, .int (Int32.ofNat o), .ref d, .int (Int32.ofNat q), .int (Int32.ofNat len)] 7)) (T9.setTop (mkF m 46 #[.val (.ref b), .val (.int (Int32.ofNat (o + len))), .val (.ref d), .val (.int (Int32.ofNat (q + len))), .val (.int (Int32.ofNat len)), .val (.int (Int32.ofNat len)), z9] [.int (Int32.ofNat len)])) := g9.trans (by
    refine XS.iload X9.here hexec rfl (hb hbytes d3) rfl ?_
    refine XS.iload X9.here hexec rfl (hb hbytes d5) rfl ?_
    refine XS.icmpYes X9.here hexec rfl (pc0 := 7) rfl (hb hbytes d7) rfl (ii_ge_t (nlt32 (by omega) (Nat.le_refl _))) (by decide) rfl ?_
    refine XS.iload X9.here hexec rfl (hb hbytes d44) rfl ?_
    exact Steps.refl _)
  exact ⟨T9, some (.int (Int32.ofNat len)), _, _, _, X9, by simp, rfl, rfl, (fun h => by cases h), ⟨rfl, B9, p9.from hh0, f9⟩, fun fs hl => c11.trans (X9.ireturnOut hexec hret rfl (Or.inl rfl) (hb hbytes d46) hl)⟩
end Cmp5
namespace Cmp3
def yN : MethodName := ⟨"java/lang/StringUTF16", "compress", "([CII)[B"⟩
abbrev yB : ByteArray := jdk_52_method_16_code
theorem d0 : decode yB 0 = .ok (.iload_n 2, 1) := by decide +kernel
theorem d1 : decode yB 1 = .ok (.newarray .byte, 2) := by decide +kernel
theorem d3 : decode yB 3 = .ok (.astore_n 3, 1) := by decide +kernel
theorem d4 : decode yB 4 = .ok (.aload_n 0, 1) := by decide +kernel
theorem d5 : decode yB 5 = .ok (.iload_n 1, 1) := by decide +kernel
theorem d6 : decode yB 6 = .ok (.aload_n 3, 1) := by decide +kernel
theorem d7 : decode yB 7 = .ok (.iconst 0, 1) := by decide +kernel
theorem d8 : decode yB 8 = .ok (.iload_n 2, 1) := by decide +kernel
theorem d9 : decode yB 9 = .ok (.invokestatic 115, 3) := by decide +kernel
theorem d12 : decode yB 12 = .ok (.istore 4, 2) := by decide +kernel
theorem d14 : decode yB 14 = .ok (.iload 4, 2) := by decide +kernel
theorem d16 : decode yB 16 = .ok (.iload_n 2, 1) := by decide +kernel
theorem d17 : decode yB 17 = .ok (.if_icmp (.eq) 40, 3) := by decide +kernel
theorem d57 : decode yB 57 = .ok (.aload_n 3, 1) := by decide +kernel
theorem d58 : decode yB 58 = .ok (.areturn, 1) := by decide +kernel
def site : List Cond := [.arrayClass .byte, Cmp5.tab] ++ staticW U16 115 Cmp5.yN
def tab : Cond := tabOf yN yB 6 (some (.array .byte)) site
def P (b : Addr) (A : Cell) (o len : Nat) (args : Array Value) (s : State) : Prop := args = #[.ref b, .int (Int32.ofNat o), .int (Int32.ofNat len)] ∧ Ch b A s ∧ o + len ≤ A.slots.size ∧ len ≤ 536870912 ∧ ∀ i, i < len → ¬ 255 < cv A (o + i)
def E (b : Addr) (A : Cell) (o len : Nat) (r : Option Value) (s u : State) : Prop := NewArr .byte "[B" len (fun j => .int (lo8 (cv A (o + j)))) r s u ∧ u.heap.size = s.heap.size + 1
/-- no char of the range above 255: a new byte[] of their low bytes -/
theorem law (l : Launch) (b : Addr) (A : Cell) (o len : Nat) : Law l yN 3 3 1 18 yB 6 (some (.array .byte)) site (P b A o len) (E b A o len) [] 1 len := by
  refine Law.of_walk (plainFor_of_name (by decide +kernel)) (by decide +kernel) (by decide +kernel) (by decide) (fun _ _ h => by rw [h.1]; rfl) (fun _ U U' hal hh h => ⟨h.1, h.2.1.mv hal hh, h.2.2⟩) (fun r U U' V V' h1 hal h2 h => ⟨NewArr.mv r U U' V V' h1 hal h2 h.1, by rw [h1, h2]; exact h.2⟩) ?_
  intro p e s m args below meth c s₁ X0 hexec hbytes hml hret hlk hnm hown hh0 W hP
  obtain ⟨rfl, hA, l1, l2, hp⟩ := hP
  have a31 := hA.1.2.2.2
  have c1 : Steps p.tables e below (s₁.setTop (entryFrame m #[.ref b, .int (Int32.ofNat o), .int (Int32.ofNat len)] 6)) (s₁.setTop (mkF m 0 #[.val (.ref b), .val (.int (Int32.ofNat o)), .val (.int (Int32.ofNat len)), .unset, .unset, .unset] [])) := entry rfl
  have c2 : Steps p.tables e below (s₁.setTop (entryFrame m #[.ref b, .int (Int32.ofNat o), .int (Int32.ofNat len)] 6)) (s₁.setTop (mkF m 1 #[.val (.ref b), .val (.int (Int32.ofNat o)), .val (.int (Int32.ofNat len)), .unset, .unset, .unset] [.int (Int32.ofNat len)])) := c1.trans (by
    refine XS.iloadN X0.here hexec rfl (hb hbytes d0) rfl ?_
    exact Steps.refl _)
  obtain ⟨T3, B3, X3, ba3, bs3, bv3, bh3, bf3, st3⟩ := X0.anew hexec (atype := .byte) (wk W (.arrayClass .byte)) rfl (by show len * 1 ≤ _; omega) (by omega) (g := (mkF m 1 #[.val (.ref b), .val (.int (Int32.ofNat o)), .val (.int (Int32.ofNat len)), .unset, .unset, .unset] [.int (Int32.ofNat len)])) rfl (hb hbytes d1) (rest := []) rfl (Nat.le_refl _) (by show 0 + len ≤ len; omega)
  rw [hh0] at ba3 st3
  have kp3 : XT.Kept s T3 := (XT.Kept.of_eq hh0).push bh3
  have hA3 := hA.keep X3.warmed.alike (kp3 _ _ hA.1.1)
  have hne : b ≠ s.heap.size := hA.1.ne
  have c4 : Steps p.tables e below (s₁.setTop (entryFrame m #[.ref b, .int (Int32.ofNat o), .int (Int32.ofNat len)] 6)) (T3.setTop (mkF m 3 #[.val (.ref b), .val (.int (Int32.ofNat o)), .val (.int (Int32.ofNat len)), .unset, .unset, .unset] [.ref s.heap.size])) := c2.trans (st3 _ (Steps.refl _))
  have c5 : Steps p.tables e below (s₁.setTop (entryFrame m #[.ref b, .int (Int32.ofNat o), .int (Int32.ofNat len)] 6)) (T3.setTop (mkF m 9 #[.val (.ref b), .val (.int (Int32.ofNat o)), .val (.int (Int32.ofNat len)), .val (.ref s.heap.size), .unset, .unset] [.int (Int32.ofNat len), .int 0, .ref s.heap.size, .int (Int32.ofNat o), .ref b])) := c4.trans (by
    refine XS.astoreN X3.here hexec rfl (hb hbytes d3) rfl rfl rfl ?_
    refine XS.aloadN X3.here hexec rfl (hb hbytes d4) rfl rfl ?_
    refine XS.iloadN X3.here hexec rfl (hb hbytes d5) rfl ?_
    refine XS.aloadN X3.here hexec rfl (hb hbytes d6) rfl rfl ?_
    refine iconstV X3.here hexec rfl 0 (hb hbytes d7) (by decide) ?_
    refine XS.iloadN X3.here hexec rfl (hb hbytes d8) rfl ?_
    exact Steps.refl _)
  obtain ⟨v6, T6, X6, E6, g6⟩ := X3.callS hexec (Cmp5.law l b A s.heap.size B3 o 0 len) hown (wks W (staticW U16 115 Cmp5.yN)) (wk W Cmp5.tab) (W := 0) (Nat.le_of_ble_eq_true rfl) (Nat.le_of_ble_eq_true rfl) (Nat.le_refl _) (by show 0 + len + 0 ≤ len; omega) (g := (mkF m 9 #[.val (.ref b), .val (.int (Int32.ofNat o)), .val (.int (Int32.ofNat len)), .val (.ref s.heap.size), .unset, .unset] [.int (Int32.ofNat len), .int (Int32.ofNat 0), .ref s.heap.size, .int (Int32.ofNat o), .ref b])) rfl (by rw [hml]; rfl) c5 (argsL := [.ref b, .int (Int32.ofNat o), .ref s.heap.size, .int (Int32.ofNat 0), .int (Int32.ofNat len)]) (rest := []) rfl rfl (by show 2 * 0 + 0 ≤ _; decide) (hb hbytes d9) (⟨rfl, hA3, ba3, hne, l1, by rw [bs3]; simp, hp⟩)
  obtain ⟨rfl, B6, p6, f6⟩ := E6
  have c7 : Steps p.tables e below (s₁.setTop (entryFrame m #[.ref b, .int (Int32.ofNat o), .int (Int32.ofNat len)] 6)) (T6.setTop (mkF m 12 #[.val (.ref b), .val (.int (Int32.ofNat o)), .val (.int (Int32.ofNat len)), .val (.ref s.heap.size), .unset, .unset] [.int (Int32.ofNat len)])) := g6
  have c8 : Steps p.tables e below (s₁.setTop (entryFrame m #[.ref b, .int (Int32.ofNat o), .int (Int32.ofNat len)] 6)) (T6.setTop (mkF m 58 #[.val (.ref b), .val (.int (Int32.ofNat o)), .val (.int (Int32.ofNat len)), .val (.ref s.heap.size), .val (.int (Int32.ofNat len)), .unset] [.ref s.heap.size])) := c7.trans (by
    refine XS.istore X6.here hexec rfl (hb hbytes d12) rfl rfl ?_
    refine XS.iload X6.here hexec rfl (hb hbytes d14) rfl ?_
    refine XS.iloadN X6.here hexec rfl (hb hbytes d16) rfl ?_
    refine XS.icmpYes X6.here hexec rfl (pc0 := 17) rfl (hb hbytes d17) rfl (ii_eq_t rfl) (by decide) rfl ?_
    refine XS.aloadN X6.here hexec rfl (hb hbytes d57) rfl rfl ?_
    exact Steps.refl _)
  have X8 := X6.wide (L' := []) (cells' := 1) (slots' := len) (fun x hx hlt => by
    simp only [List.nil_append, copyLocs, List.mem_map, List.mem_range] at hx
    obtain ⟨i, -, rfl⟩ := hx
    exact absurd hlt (Nat.lt_irrefl _)) (Nat.le_refl _) (by omega)
  exact ⟨T6, some (.ref s.heap.size), _, _, _, X8, rfl, rfl, rfl, (fun h => by cases h), ⟨⟨rfl, B6, ba3.like (X3.warmed.alike.symm.trans X6.warmed.alike) p6.1 f6.1 f6.2.1 f6.2.2.1, f6.2.1.trans bv3, by rw [X6.warmed.alike.findClass, f6.1]; exact bf3, by rw [f6.2.2.1, bs3]; simp, fun j hj => by rw [f6.2.2.2 j, if_pos (by omega)]; rfl, kp3.put p6 (Nat.le_refl _)⟩, by rw [p6.2.2, bh3, hh0]; simp⟩, fun fs hl => c8.trans (X8.areturnOut hexec rfl hret rfl (hb hbytes d58) hl)⟩
end Cmp3
namespace CodL
def yN : MethodName := ⟨"java/lang/StringUTF16", "coderFromArrayLen", "([BI)B"⟩
abbrev yB : ByteArray := jdk_52_method_15_code
theorem d0 : decode yB 0 = .ok (.iload_n 1, 1) := by decide +kernel
theorem d1 : decode yB 1 = .ok (.aload_n 0, 1) := by decide +kernel
theorem d2 : decode yB 2 = .ok (.arraylength, 1) := by decide +kernel
theorem d3 : decode yB 3 = .ok (.isub, 1) := by decide +kernel
theorem d4 : decode yB 4 = .ok (.bipush 31, 2) := by decide +kernel
theorem d6 : decode yB 6 = .ok (.iushr, 1) := by decide +kernel
theorem d7 : decode yB 7 = .ok (.i2b, 1) := by decide +kernel
theorem d8 : decode yB 8 = .ok (.ireturn, 1) := by decide +kernel
def site : List Cond := []
def tab : Cond := tabOf yN yB 2 (some .byte) site
def P (d : Addr) (B : Cell) (args : Array Value) (s : State) : Prop := args = #[.ref d, .int (Int32.ofNat B.slots.size)] ∧ Arr .byte d B s
def E (r : Option Value) (s u : State) : Prop := XT.PureE (some (.int 0)) r s u
/-- an array as long as the number of chars: LATIN1 -/
theorem law (l : Launch) (d : Addr) (B : Cell) : Law l yN 2 2 0 0 yB 2 (some .byte) site (P d B) E [] 0 0 := by
  refine Law.of_walk (plainFor_of_name (by decide +kernel)) (by decide +kernel) (by decide +kernel) (by decide) (fun _ _ h => by rw [h.1]; rfl) (fun _ U U' hal hh h => ⟨h.1, h.2.mv hal hh⟩) (fun r U U' V V' h1 hal h2 h => XT.PureE.mv r U U' V V' h1 hal h2 h) ?_
  intro p e s m args below meth c s₁ X0 hexec hbytes hml hret hlk hnm hown hh0 W hP
  obtain ⟨rfl, hB⟩ := hP
  have hB0 := hB.mv X0.warmed.alike hh0
  have c1 : Steps p.tables e below (s₁.setTop (entryFrame m #[.ref d, .int (Int32.ofNat B.slots.size)] 2)) (s₁.setTop (mkF m 0 #[.val (.ref d), .val (.int (Int32.ofNat B.slots.size))] [])) := entry rfl
  have c2 : Steps p.tables e below (s₁.setTop (entryFrame m #[.ref d, .int (Int32.ofNat B.slots.size)] 2)) (s₁.setTop (mkF m 2 #[.val (.ref d), .val (.int (Int32.ofNat B.slots.size))] [.ref d, .int (Int32.ofNat B.slots.size)])) := c1.trans (by
    refine XS.iloadN X0.here hexec rfl (hb hbytes d0) rfl ?_
    refine XS.aloadN X0.here hexec rfl (hb hbytes d1) rfl rfl ?_
    exact Steps.refl _)
  have c3 : Steps p.tables e below (s₁.setTop (entryFrame m #[.ref d, .int (Int32.ofNat B.slots.size)] 2)) (s₁.setTop (mkF m 8 #[.val (.ref d), .val (.int (Int32.ofNat B.slots.size))] [.int (lo8 (ushr (Int32.ofNat B.slots.size - Int32.ofNat B.slots.size) 31))])) := c2.trans (by
    refine X0.alen hexec hB0 rfl rfl (hb hbytes d2) ?_
    refine XS.isub X0.here hexec rfl (hb hbytes d3) rfl ?_
    refine bipushV X0.here hexec rfl 31 (hb hbytes d4) (by decide) ?_
    refine iushr X0.here hexec rfl (hb hbytes d6) rfl ?_
    refine i2b X0.here hexec rfl (hb hbytes d7) rfl ?_
    exact Steps.refl _)
  have e0 : lo8 (ushr (Int32.ofNat B.slots.size - Int32.ofNat B.slots.size) 31) = 0 := by rw [Int32.sub_self]; decide
  rw [e0] at c3
  exact ⟨s₁, some (.int 0), _, _, _, X0, rfl, rfl, rfl, (fun h => by cases h), ⟨rfl, hh0⟩, fun fs hl => c3.trans (X0.ireturnOut hexec hret rfl (Or.inr (Or.inr (Or.inl rfl))) (hb hbytes d8) hl)⟩
end CodL
/-- the String at a is Latin-1 over a new byte[] (the heap's one new cell): the low bytes of the len chars of A from o on; every cell but a is kept -/
def Got (a : Addr) (D : Cell) (fV fC : Field) (A : Cell) (o len : Nat) (r : Option Value) (s u : State) : Prop := r = none ∧ ∃ D' V : Cell, Blank "java/lang/String" a D' u ∧ Same D D' [fV.slot, fC.slot] ∧ D'.slots[fV.slot]? = some (.ref s.heap.size) ∧ D'.slots[fC.slot]? = some (.int 0) ∧ Arr .byte s.heap.size V u ∧ V.vm = .none ∧ u.vm.findClass "[B" = some V.cls ∧ V.slots.size = len ∧ (∀ j, j < len → V.slots[j]? = some (.int (lo8 (cv A (o + j))))) ∧ (∀ (y : Addr) (c : Cell), y ≠ a → s.heap[y]? = some c → u.heap[y]? = some c) ∧ u.heap.size = s.heap.size + 1
theorem Got.mv {a : Addr} {D A : Cell} {fV fC : Field} {o len : Nat} : ∀ r (U U' V V' : State), U'.heap = U.heap → V.vm.Alike V'.vm → V'.heap = V.heap → Got a D fV fC A o len r U V → Got a D fV fC A o len r U' V' :=
  fun r U U' V V' h1 hal h2 ⟨e0, D', X, a1, a2, a3, a4, a5, a6, a7, a8, a9, a10, a11⟩ => ⟨e0, D', X, a1.mv hal h2, a2, by rw [h1]; exact a3, a4, by rw [h1]; exact a5.mv hal h2, a6, by rw [hal.findClass]; exact a7, a8, a9, by rw [h1, h2]; exact a10, by rw [h1, h2]; exact a11⟩
namespace New4
def yN : MethodName := ⟨"java/lang/String", "<init>", "([CIILjava/lang/Void;)V"⟩
abbrev yB : ByteArray := jdk_42_method_149_code
theorem d0 : decode yB 0 = .ok (.aload_n 0, 1) := by decide +kernel
theorem d1 : decode yB 1 = .ok (.invokespecial 1, 3) := by decide +kernel
theorem d4 : decode yB 4 = .ok (.iload_n 3, 1) := by decide +kernel
theorem d5 : decode yB 5 = .ok (.ifCond (.ne) 22, 3) := by decide +kernel
theorem d27 : decode yB 27 = .ok (.getstatic 38, 3) := by decide +kernel
theorem d30 : decode yB 30 = .ok (.ifCond (.eq) 28, 3) := by decide +kernel
theorem d33 : decode yB 33 = .ok (.aload_n 1, 1) := by decide +kernel
theorem d34 : decode yB 34 = .ok (.iload_n 2, 1) := by decide +kernel
theorem d35 : decode yB 35 = .ok (.iload_n 3, 1) := by decide +kernel
theorem d36 : decode yB 36 = .ok (.invokestatic 177, 3) := by decide +kernel
theorem d39 : decode yB 39 = .ok (.astore 5, 2) := by decide +kernel
theorem d41 : decode yB 41 = .ok (.aload_n 0, 1) := by decide +kernel
theorem d42 : decode yB 42 = .ok (.aload 5, 2) := by decide +kernel
theorem d44 : decode yB 44 = .ok (.iload_n 3, 1) := by decide +kernel
theorem d45 : decode yB 45 = .ok (.invokestatic 47, 3) := by decide +kernel
theorem d48 : decode yB 48 = .ok (.putfield 15, 3) := by decide +kernel
theorem d51 : decode yB 51 = .ok (.aload_n 0, 1) := by decide +kernel
theorem d52 : decode yB 52 = .ok (.aload 5, 2) := by decide +kernel
theorem d54 : decode yB 54 = .ok (.putfield 9, 3) := by decide +kernel
theorem d57 : decode yB 57 = .ok (.return_, 1) := by decide +kernel
def site : List Cond := [.fieldLink "java/lang/String" 38 "java/lang/String" "COMPACT_STRINGS" "Z", Cmp3.tab, CodL.tab, .laysFinal "java/lang/String" "java/lang/String" "value" "[B", .fieldLink "java/lang/String" 9 "java/lang/String" "value" "[B", .laysFinal "java/lang/String" "java/lang/String" "coder" "B", .fieldLink "java/lang/String" 15 "java/lang/String" "coder" "B"] ++ objW "java/lang/String" 1 ++ staticW "java/lang/String" 177 Cmp3.yN ++ staticW "java/lang/String" 47 CodL.yN
def tab : Cond := tabOf yN yB 6 none site
def P (a : Addr) (D : Cell) (fV fC : Field) (b : Addr) (A : Cell) (z : Int32) (o len : Nat) (args : Array Value) (s : State) : Prop := args = #[.ref a, .ref b, .int (Int32.ofNat o), .int (Int32.ofNat len), .null] ∧ Blank "java/lang/String" a D s ∧ Found "java/lang/String" "value" "[B" fV s ∧ Found "java/lang/String" "coder" "B" fC s ∧ Ch b A s ∧ StaticIs s "java/lang/String" "COMPACT_STRINGS" "Z" (.int z) ∧ ¬ z = 0 ∧ 0 < len ∧ o + len ≤ A.slots.size ∧ len ≤ 536870912 ∧ ∀ i, i < len → ¬ 255 < cv A (o + i)
def E (a : Addr) (D : Cell) (fV fC : Field) (A : Cell) (o len : Nat) (r : Option Value) (s u : State) : Prop := Got a D fV fC A o len r s u
/-- len > 0, no char of the range above 255: a Latin-1 String of their low bytes -/
theorem law (l : Launch) (a : Addr) (D : Cell) (fV fC : Field) (b : Addr) (A : Cell) (z : Int32) (o len : Nat) : Law l yN 5 4 2 35 yB 6 none site (P a D fV fC b A z o len) (E a D fV fC A o len) [⟨a, fC.slot⟩, ⟨a, fV.slot⟩] 1 len := by
  refine Law.of_walk (plainFor_of_name (by decide +kernel)) (by decide +kernel) (by decide +kernel) (by decide) (fun _ _ h => by rw [h.1]; rfl) (fun _ U U' hal hh h => ⟨h.1, h.2.1.mv hal hh, h.2.2.1.al hal, h.2.2.2.1.al hal, h.2.2.2.2.1.mv hal hh, h.2.2.2.2.2.1.there hal hh, h.2.2.2.2.2.2⟩) (fun r U U' V V' h1 hal h2 h => Got.mv r U U' V V' h1 hal h2 h) ?_
  intro p e s m args below meth c s₁ X0 hexec hbytes hml hret hlk hnm hown hh0 W hP
  obtain ⟨rfl, hB, f1, f2, hA, s1, hz, l0, l1, l2, hp⟩ := hP
  have a31 := hA.1.2.2.2
  have c1 : Steps p.tables e below (s₁.setTop (entryFrame m #[.ref a, .ref b, .int (Int32.ofNat o), .int (Int32.ofNat len), .null] 6)) (s₁.setTop (mkF m 0 #[.val (.ref a), .val (.ref b), .val (.int (Int32.ofNat o)), .val (.int (Int32.ofNat len)), .val .null, .unset] [])) := entry rfl
  have c2 : Steps p.tables e below (s₁.setTop (entryFrame m #[.ref a, .ref b, .int (Int32.ofNat o), .int (Int32.ofNat len), .null] 6)) (s₁.setTop (mkF m 1 #[.val (.ref a), .val (.ref b), .val (.int (Int32.ofNat o)), .val (.int (Int32.ofNat len)), .val .null, .unset] [.ref a])) := c1.trans (by
    refine XS.aloadN X0.here hexec rfl (hb hbytes d0) rfl rfl ?_
    exact Steps.refl _)
  obtain ⟨T3, X3, q3, st3⟩ := X0.oinit hexec hown (wks W (objW "java/lang/String" 1)) (g := (mkF m 1 #[.val (.ref a), .val (.ref b), .val (.int (Int32.ofNat o)), .val (.int (Int32.ofNat len)), .val .null, .unset] [.ref a])) rfl (by rw [hml]; rfl) (rest := []) rfl (hb hbytes d1) (W := 0) (by show 2 * 0 + 0 ≤ _; decide) (Nat.le_of_ble_eq_true rfl) (Nat.le_of_ble_eq_true rfl)
  have hh3 := q3.trans hh0
  have c4 : Steps p.tables e below (s₁.setTop (entryFrame m #[.ref a, .ref b, .int (Int32.ofNat o), .int (Int32.ofNat len), .null] 6)) (T3.setTop (mkF m 27 #[.val (.ref a), .val (.ref b), .val (.int (Int32.ofNat o)), .val (.int (Int32.ofNat len)), .val .null, .unset] [])) := (c2.trans (st3 _ (Steps.refl _))).trans (by
    refine XS.iloadN X3.here hexec rfl (hb hbytes d4) rfl ?_
    refine XS.ifYes X3.here hexec rfl (pc0 := 5) rfl (hb hbytes d5) rfl (i0_ne_t (nz32 (by omega) l0)) (by decide) rfl ?_
    exact Steps.refl _)
  obtain ⟨T5, X5, q5, st5⟩ := X3.sget hexec hown (wk W (.fieldLink "java/lang/String" 38 "java/lang/String" "COMPACT_STRINGS" "Z")) s1 (fun _ _ h => by rw [hh3]; exact h) (g := (mkF m 27 #[.val (.ref a), .val (.ref b), .val (.int (Int32.ofNat o)), .val (.int (Int32.ofNat len)), .val .null, .unset] [])) rfl (hb hbytes d27)
  have hh5 := q5.trans hh3
  have c6 : Steps p.tables e below (s₁.setTop (entryFrame m #[.ref a, .ref b, .int (Int32.ofNat o), .int (Int32.ofNat len), .null] 6)) (T5.setTop (mkF m 30 #[.val (.ref a), .val (.ref b), .val (.int (Int32.ofNat o)), .val (.int (Int32.ofNat len)), .val .null, .unset] [.int z])) := c4.trans (st5 _ (Steps.refl _))
  have c7 : Steps p.tables e below (s₁.setTop (entryFrame m #[.ref a, .ref b, .int (Int32.ofNat o), .int (Int32.ofNat len), .null] 6)) (T5.setTop (mkF m 36 #[.val (.ref a), .val (.ref b), .val (.int (Int32.ofNat o)), .val (.int (Int32.ofNat len)), .val .null, .unset] [.int (Int32.ofNat len), .int (Int32.ofNat o), .ref b])) := c6.trans (by
    refine XS.ifNo X5.here hexec rfl (hb hbytes d30) rfl (i0_eq_f hz) ?_
    refine XS.aloadN X5.here hexec rfl (hb hbytes d33) rfl rfl ?_
    refine XS.iloadN X5.here hexec rfl (hb hbytes d34) rfl ?_
    refine XS.iloadN X5.here hexec rfl (hb hbytes d35) rfl ?_
    exact Steps.refl _)
  obtain ⟨v8, T8, X8, E8, g8⟩ := X5.callS hexec (Cmp3.law l b A o len) hown (wks W (staticW "java/lang/String" 177 Cmp3.yN)) (wk W Cmp3.tab) (W := 0) (Nat.le_of_ble_eq_true rfl) (Nat.le_of_ble_eq_true rfl) (Nat.le_refl _) (by show 0 + len ≤ len; omega) (g := (mkF m 36 #[.val (.ref a), .val (.ref b), .val (.int (Int32.ofNat o)), .val (.int (Int32.ofNat len)), .val .null, .unset] [.int (Int32.ofNat len), .int (Int32.ofNat o), .ref b])) rfl (by rw [hml]; rfl) c7 (argsL := [.ref b, .int (Int32.ofNat o), .int (Int32.ofNat len)]) (rest := []) rfl rfl (by show 2 * 0 + 0 ≤ _; decide) (hb hbytes d36) (⟨rfl, hA.mv X5.warmed.alike hh5, l1, l2, hp⟩)
  obtain ⟨e8, z8⟩ := E8
  obtain ⟨rfl, N, n1, n2, n3, n4, n5, n6⟩ := NewArr.mv _ T5 s _ _ hh5.symm (Vm.Alike.refl _) rfl e8
  rw [hh5] at z8
  have hB1 := hB.keep X8.warmed.alike (n6 _ _ hB.1)
  have hne : s.heap.size ≠ a := (Nat.ne_of_lt (Array.getElem?_eq_some_iff.mp hB.1).1).symm
  have c9 : Steps p.tables e below (s₁.setTop (entryFrame m #[.ref a, .ref b, .int (Int32.ofNat o), .int (Int32.ofNat len), .null] 6)) (T8.setTop (mkF m 39 #[.val (.ref a), .val (.ref b), .val (.int (Int32.ofNat o)), .val (.int (Int32.ofNat len)), .val .null, .unset] [.ref s.heap.size])) := g8
  have c10 : Steps p.tables e below (s₁.setTop (entryFrame m #[.ref a, .ref b, .int (Int32.ofNat o), .int (Int32.ofNat len), .null] 6)) (T8.setTop (mkF m 45 #[.val (.ref a), .val (.ref b), .val (.int (Int32.ofNat o)), .val (.int (Int32.ofNat len)), .val .null, .val (.ref s.heap.size)] [.int (Int32.ofNat N.slots.size), .ref s.heap.size, .ref a])) := by
    have hc : Steps p.tables e below (s₁.setTop (entryFrame m #[.ref a, .ref b, .int (Int32.ofNat o), .int (Int32.ofNat len), .null] 6)) (T8.setTop (mkF m 45 #[.val (.ref a), .val (.ref b), .val (.int (Int32.ofNat o)), .val (.int (Int32.ofNat len)), .val .null, .val (.ref s.heap.size)] [.int (Int32.ofNat len), .ref s.heap.size, .ref a])) := c9.trans (by
      refine XS.astore X8.here hexec rfl (hb hbytes d39) rfl rfl rfl ?_
      refine XS.aloadN X8.here hexec rfl (hb hbytes d41) rfl rfl ?_
      refine XS.aload X8.here hexec rfl (hb hbytes d42) rfl rfl ?_
      refine XS.iloadN X8.here hexec rfl (hb hbytes d44) rfl ?_
      exact Steps.refl _)
    rw [n4]; exact hc
  obtain ⟨v11, T11, X11, E11, g11⟩ := X8.callS hexec (CodL.law l s.heap.size N) hown (wks W (staticW "java/lang/String" 47 CodL.yN)) (wk W CodL.tab) (W := 1) (Nat.le_of_ble_eq_true rfl) (Nat.le_of_ble_eq_true rfl) (Nat.le_refl _) (by show 0 + len + 0 ≤ len; omega) (g := (mkF m 45 #[.val (.ref a), .val (.ref b), .val (.int (Int32.ofNat o)), .val (.int (Int32.ofNat len)), .val .null, .val (.ref s.heap.size)] [.int (Int32.ofNat N.slots.size), .ref s.heap.size, .ref a])) rfl (by rw [hml]; rfl) c10 (argsL := [.ref s.heap.size, .int (Int32.ofNat N.slots.size)]) (rest := [.ref a]) rfl rfl (by show 2 * 0 + (1 + 0) ≤ _; decide) (hb hbytes d45) (⟨rfl, n1⟩)
  obtain ⟨rfl, q11⟩ := E11
  have hB11 := hB1.mv (X8.warmed.alike.symm.trans X11.warmed.alike) q11
  have c12 : Steps p.tables e below (s₁.setTop (entryFrame m #[.ref a, .ref b, .int (Int32.ofNat o), .int (Int32.ofNat len), .null] 6)) (T11.setTop (mkF m 48 #[.val (.ref a), .val (.ref b), .val (.int (Int32.ofNat o)), .val (.int (Int32.ofNat len)), .val .null, .val (.ref s.heap.size)] [.int 0, .ref a])) := g11
  obtain ⟨T13, X13, p13, bl13, sl13, st13⟩ := X11.finit hexec hown (wk W (.fieldLink "java/lang/String" 15 "java/lang/String" "coder" "B")) (Or.inr ⟨_, (wk W (.laysFinal "java/lang/String" "java/lang/String" "coder" "B"))⟩) (Or.inl ⟨rfl, hnm⟩) f2 (Or.inl rfl) hB11 (t := .byte) (by decide +kernel) rfl (g := (mkF m 48 #[.val (.ref a), .val (.ref b), .val (.int (Int32.ofNat o)), .val (.int (Int32.ofNat len)), .val .null, .val (.ref s.heap.size)] [.int 0, .ref a])) rfl (rest := []) rfl (hb hbytes d48)
  have c14 : Steps p.tables e below (s₁.setTop (entryFrame m #[.ref a, .ref b, .int (Int32.ofNat o), .int (Int32.ofNat len), .null] 6)) (T13.setTop (mkF m 54 #[.val (.ref a), .val (.ref b), .val (.int (Int32.ofNat o)), .val (.int (Int32.ofNat len)), .val .null, .val (.ref s.heap.size)] [.ref s.heap.size, .ref a])) := (c12.trans (st13 _ (Steps.refl _))).trans (by
    refine XS.aloadN X13.here hexec rfl (hb hbytes d51) rfl rfl ?_
    refine XS.aload X13.here hexec rfl (hb hbytes d52) rfl rfl ?_
    exact Steps.refl _)
  obtain ⟨T15, X15, p15, bl15, sl15, st15⟩ := X13.finit hexec hown (wk W (.fieldLink "java/lang/String" 9 "java/lang/String" "value" "[B")) (Or.inr ⟨_, (wk W (.laysFinal "java/lang/String" "java/lang/String" "value" "[B"))⟩) (Or.inl ⟨rfl, hnm⟩) f1 (Or.inl rfl) bl13 (t := (.array .byte)) (by decide +kernel) rfl (g := (mkF m 54 #[.val (.ref a), .val (.ref b), .val (.int (Int32.ofNat o)), .val (.int (Int32.ofNat len)), .val .null, .val (.ref s.heap.size)] [.ref s.heap.size, .ref a])) rfl (rest := []) rfl (hb hbytes d54)
  have c16 : Steps p.tables e below (s₁.setTop (entryFrame m #[.ref a, .ref b, .int (Int32.ofNat o), .int (Int32.ofNat len), .null] 6)) (T15.setTop (mkF m 57 #[.val (.ref a), .val (.ref b), .val (.int (Int32.ofNat o)), .val (.int (Int32.ofNat len)), .val .null, .val (.ref s.heap.size)] [])) := c14.trans (st15 _ (Steps.refl _))
  have ap := apart (Or.inr ⟨_, (wk W (.laysFinal "java/lang/String" "java/lang/String" "value" "[B"))⟩) (Or.inr ⟨_, (wk W (.laysFinal "java/lang/String" "java/lang/String" "coder" "B"))⟩) f1 f2 (t₁ := .array .byte) (t₂ := .byte) (by decide +kernel) (by decide +kernel) (by decide)
  have al := X8.warmed.alike.symm.trans X15.warmed.alike
  have n7 : T11.heap[s.heap.size]? = some N := by rw [q11]; exact n1.1
  exact ⟨T15, none, _, _, _, X15, by simp, rfl, by omega, (fun _ => rfl), ⟨rfl, _, N, bl15, ((Same.refl D _).set _ (by simp)).set _ (by simp), sl15, (Cell.slots_setSlot_ne _ ap).trans sl13, n1.keep al (p15.other hne (p13.other hne n7)), n2, by rw [al.findClass]; exact n3, n4, n5, fun y c h1 h2 => p15.other h1 (p13.other h1 (by rw [q11]; exact n6 y c h2)), by rw [p15.2.2, p13.2.2, q11]; exact z8⟩, fun fs hl => c16.trans (X15.returnOut hexec hret (hb hbytes d57) hl)⟩
end New4
namespace New1
def yN : MethodName := ⟨"java/lang/String", "<init>", "([C)V"⟩
abbrev yB : ByteArray := jdk_42_method_3_code
theorem d0 : decode yB 0 = .ok (.aload_n 0, 1) := by decide +kernel
theorem d1 : decode yB 1 = .ok (.aload_n 1, 1) := by decide +kernel
theorem d2 : decode yB 2 = .ok (.iconst 0, 1) := by decide +kernel
theorem d3 : decode yB 3 = .ok (.aload_n 1, 1) := by decide +kernel
theorem d4 : decode yB 4 = .ok (.arraylength, 1) := by decide +kernel
theorem d5 : decode yB 5 = .ok (.aconst_null, 1) := by decide +kernel
theorem d6 : decode yB 6 = .ok (.invokespecial 27, 3) := by decide +kernel
theorem d9 : decode yB 9 = .ok (.return_, 1) := by decide +kernel
def site : List Cond := [New4.tab] ++ initW "java/lang/String" 27 New4.yN
def tab : Cond := tabOf yN yB 2 none site
def P (a : Addr) (D : Cell) (fV fC : Field) (b : Addr) (A : Cell) (z : Int32) (args : Array Value) (s : State) : Prop := args = #[.ref a, .ref b] ∧ Blank "java/lang/String" a D s ∧ Found "java/lang/String" "value" "[B" fV s ∧ Found "java/lang/String" "coder" "B" fC s ∧ Ch b A s ∧ StaticIs s "java/lang/String" "COMPACT_STRINGS" "Z" (.int z) ∧ ¬ z = 0 ∧ 0 < A.slots.size ∧ A.slots.size ≤ 536870912 ∧ ∀ i, i < A.slots.size → ¬ 255 < cv A i
def E (a : Addr) (D : Cell) (fV fC : Field) (A : Cell) (r : Option Value) (s u : State) : Prop := Got a D fV fC A 0 A.slots.size r s u
/-- new String(chars), not empty, no char above 255: a Latin-1 String of their low bytes -/
theorem law (l : Launch) (a : Addr) (D : Cell) (fV fC : Field) (b : Addr) (A : Cell) (z : Int32) : Law l yN 2 1 3 52 yB 2 none site (P a D fV fC b A z) (E a D fV fC A) [⟨a, fC.slot⟩, ⟨a, fV.slot⟩] 1 A.slots.size := by
  refine Law.of_walk (plainFor_of_name (by decide +kernel)) (by decide +kernel) (by decide +kernel) (by decide) (fun _ _ h => by rw [h.1]; rfl) (fun _ U U' hal hh h => ⟨h.1, h.2.1.mv hal hh, h.2.2.1.al hal, h.2.2.2.1.al hal, h.2.2.2.2.1.mv hal hh, h.2.2.2.2.2.1.there hal hh, h.2.2.2.2.2.2⟩) (fun r U U' V V' h1 hal h2 h => Got.mv r U U' V V' h1 hal h2 h) ?_
  intro p e s m args below meth c s₁ X0 hexec hbytes hml hret hlk hnm hown hh0 W hP
  obtain ⟨rfl, hB, f1, f2, hA, s1, hz, l0, l2, hp⟩ := hP
  have c1 : Steps p.tables e below (s₁.setTop (entryFrame m #[.ref a, .ref b] 2)) (s₁.setTop (mkF m 0 #[.val (.ref a), .val (.ref b)] [])) := entry rfl
  have c2 : Steps p.tables e below (s₁.setTop (entryFrame m #[.ref a, .ref b] 2)) (s₁.setTop (mkF m 6 #[.val (.ref a), .val (.ref b)] [.null, .int (Int32.ofNat A.slots.size), .int 0, .ref b, .ref a])) := c1.trans (by
    refine XS.aloadN X0.here hexec rfl (hb hbytes d0) rfl rfl ?_
    refine XS.aloadN X0.here hexec rfl (hb hbytes d1) rfl rfl ?_
    refine iconstV X0.here hexec rfl 0 (hb hbytes d2) (by decide) ?_
    refine XS.aloadN X0.here hexec rfl (hb hbytes d3) rfl rfl ?_
    refine X0.alen hexec (hA.1.mv X0.warmed.alike hh0) rfl rfl (hb hbytes d4) ?_
    refine XS.aconstNull X0.here hexec rfl (hb hbytes d5) ?_
    exact Steps.refl _)
  obtain ⟨v3, T3, X3, E3, g3⟩ := X0.callN hexec (New4.law l a D fV fC b A z 0 A.slots.size) rfl hown (wks W (initW "java/lang/String" 27 New4.yN)) (W New4.tab (by simp only [site, List.mem_cons, List.mem_append, true_or, or_true])) (W := 0) (Nat.le_of_ble_eq_true rfl) (Nat.le_of_ble_eq_true rfl) (Nat.le_refl _) (by show 0 + A.slots.size ≤ A.slots.size; omega) (g := (mkF m 6 #[.val (.ref a), .val (.ref b)] [.null, .int (Int32.ofNat A.slots.size), .int (Int32.ofNat 0), .ref b, .ref a])) rfl (by rw [hml]; rfl) c2 (argsL := [.ref b, .int (Int32.ofNat 0), .int (Int32.ofNat A.slots.size), .null]) (rest := []) rfl rfl (by show 2 * 0 + 0 ≤ _; decide) (hb hbytes d6) (⟨rfl, hB.mv X0.warmed.alike hh0, f1.al X0.warmed.alike, f2.al X0.warmed.alike, hA.mv X0.warmed.alike hh0, s1.there X0.warmed.alike hh0, hz, l0, by omega, l2, fun i hi => by rw [Nat.zero_add]; exact hp i hi⟩)
  have e0 := Got.mv _ s₁ s _ _ hh0.symm (Vm.Alike.refl _) rfl E3
  obtain rfl := e0.1
  have c4 : Steps p.tables e below (s₁.setTop (entryFrame m #[.ref a, .ref b] 2)) (T3.setTop (mkF m 9 #[.val (.ref a), .val (.ref b)] [])) := g3
  exact ⟨T3, none, _, _, _, X3, by simp, rfl, by omega, (fun _ => rfl), e0, fun fs hl => c4.trans (X3.returnOut hexec hret (hb hbytes d9) hl)⟩
theorem pays {l : Launch} {R : Room} {p : Program} {e : Env} {below : List Frame} {s : State} {sargs : Array Value} {len W : Nat} (a : Addr) (D : Cell) (fV fC : Field) (b : Addr) (A : Cell) (z : Int32) (htab : tab.before sargs s = true) (hfr : 4 ≤ R.frames) (hlo : W + 65 ≤ R.locals) :
    Back l R p e below s sargs yN len W (fun A₁ a₁ => A₁.cells + 1 ≤ R.cells ∧ A₁.slots + A.slots.size ≤ R.slots ∧ P a D fV fC b A z a₁ A₁.U) (fun A₁ _ v₁ B₁ => E a D fV fC A v₁ A₁.U B₁.U ∧ B₁.locs = A₁.locs ++ [⟨a, fC.slot⟩, ⟨a, fV.slot⟩] ∧ B₁.cells = A₁.cells + 1 ∧ B₁.slots = A₁.slots + A.slots.size) :=
  (law l a D fV fC b A z).pays htab hfr (by omega)
end New1
/-- the byte, read back as charAt reads it, is the char -/
theorem lo8_mask {x : Int32} (h0 : ¬ x < 0) (h1 : ¬ 255 < x) : lo8 x &&& 255 = x := by
  have t : ∀ k : Fin 256, lo8 (Int32.ofNat k.val) &&& 255 = Int32.ofNat k.val := by decide +kernel
  rw [Int32.lt_iff_toInt_lt] at h0 h1
  have e0 : (0 : Int32).toInt = 0 := rfl
  have e1 : (255 : Int32).toInt = 255 := rfl
  obtain ⟨k, hk⟩ : ∃ k : Nat, x.toInt = k := ⟨x.toInt.toNat, by omega⟩
  have hx : x = Int32.ofNat k := Int32.toInt_inj.mp (by rw [hk, Int32.toInt_ofNat_small (by omega)])
  rw [hx]
  exact t ⟨k, by omega⟩
end StrChars
namespace StrChars.Road
open Jvm Sem ClassFile Op Lib Jvm.Stand Jvm.Free Jvm.Free.XT
open Jvm.Lib.Cold (StaticIs)
abbrev ST : String := "java/lang/String"
/-- every table word that New1's law asks, flat -/
abbrev words : List Jvm.Cond := [.code New1.yN New1.yB 2 none, .initialized ST, .methodLink ST 27 New4.yN, .instanceMethod New4.yN,
  .code New4.yN New4.yB 6 none, .fieldLink ST 38 ST "COMPACT_STRINGS" "Z", .laysFinal ST ST "value" "[B", .fieldLink ST 9 ST "value" "[B", .laysFinal ST ST "coder" "B", .fieldLink ST 15 ST "coder" "B",
  .methodLink ST 1 Lib.objectInit, .instanceMethod Lib.objectInit, .code Lib.objectInit ⟨#[0xb1]⟩ 1 none, .methodLink ST 177 Cmp3.yN, .static Cmp3.yN, .methodLink ST 47 CodL.yN, .static CodL.yN,
  .code Cmp3.yN Cmp3.yB 6 (some (.array .byte)), .initialized U16, .arrayClass .byte, .methodLink U16 115 Cmp5.yN, .static Cmp5.yN, .code Cmp5.yN Cmp5.yB 7 (some .int), .code CodL.yN CodL.yB 2 (some .byte)]
theorem tab_of {a : Array Value} {s : State} (h : ∀ w ∈ words, w.before a s = true) : New1.tab.before a s = true := by
  have h5 : Cmp5.tab.before a s = true := unparts (wk h (.code Cmp5.yN Cmp5.yB 7 (some .int))) (wks h (.initialized Cmp5.yN.cls :: Cmp5.site))
  have hc : CodL.tab.before a s = true := unparts (wk h (.code CodL.yN CodL.yB 2 (some .byte))) (wks h (.initialized CodL.yN.cls :: CodL.site))
  have q5 : ∀ w ∈ Cmp5.tab :: words, w.before a s = true := fun w hw => (List.mem_cons.mp hw).elim (fun e => e ▸ h5) (h w)
  have h3 : Cmp3.tab.before a s = true := unparts (wk q5 (.code Cmp3.yN Cmp3.yB 6 (some (.array .byte)))) (wks q5 (.initialized Cmp3.yN.cls :: Cmp3.site))
  have q3 : ∀ w ∈ Cmp3.tab :: CodL.tab :: words, w.before a s = true := fun w hw => (List.mem_cons.mp hw).elim (fun e => e ▸ h3) fun hw => (List.mem_cons.mp hw).elim (fun e => e ▸ hc) (h w)
  have h4 : New4.tab.before a s = true := unparts (wk q3 (.code New4.yN New4.yB 6 none)) (wks q3 (.initialized New4.yN.cls :: New4.site))
  have q4 : ∀ w ∈ New4.tab :: words, w.before a s = true := fun w hw => (List.mem_cons.mp hw).elim (fun e => e ▸ h4) (h w)
  exact unparts (wk q4 (.code New1.yN New1.yB 2 none)) (wks q4 (.initialized New1.yN.cls :: New1.site))
/-- the words ride from the start Z to the walk's own state -/
theorem moved {Z s : State} {a0 args : Array Value} (hZ : Z.Warmed39 s.vm) (hw : ∀ d ∈ words, d.before a0 Z = true) : ∀ d ∈ words, d.before args s = true := fun d hd => by
  have q := hw d hd
  have t : ∀ d ∈ words, d = .arrayClass .byte ∨ (d.onTables && d.keepsFace) = true := by decide +kernel
  rcases t d hd with rfl | t
  · exact RoadKit.mvA hZ q
  · exact RoadKit.mv hZ q t
/-- WHAT COMES BACK, over the tables of the start Z: h the heap at the call, h' behind it -/
def Q (Z : State) (x : Addr) (A : Cell) (h : Heap) (v : Option Value) (h' : Heap) (L : List Loc) : Prop := v = none ∧ (∀ y ∈ L, y.base = x) ∧ RoadKit.Keep h h' [x] ∧ h'.size = h.size + 1 ∧ RoadKit.Exa Z h' x ST ∧ RoadKit.Fld Z h' x ST "value" "[B" (.ref h.size) ∧ RoadKit.Fld Z h' x ST "coder" "B" (.int 0) ∧
  (∃ V : Cell, RoadKit.Arr Z h' h.size V .byte ∧ V.vm = .none ∧ Z.vm.findClass "[B" = some V.cls ∧ V.slots.size = A.slots.size ∧ ∀ j, j < A.slots.size → V.slots[j]? = some (.int (lo8 (cv A j)))) ∧
  ∀ (O n d : String) (w : Value), RoadKit.Fld Z h x O n d w → RoadKit.slotOf Z O n d ≠ RoadKit.slotOf Z ST "value" "[B" → RoadKit.slotOf Z O n d ≠ RoadKit.slotOf Z ST "coder" "B" → RoadKit.Fld Z h' x O n d w
/-- **new String(chars) AT A CALL, IN THE ROAD'S FORM**: for specialBack behind newO: x the fresh String, b the char[] with the cell A -/
theorem back {p : Program} {l : Launch} {e : Env} {R : Room} {s : State} {args : Array Value} {below : List Frame} {len W : Nat} {Z : State} {a0 : Array Value} {h : Heap} (hZ : Z.Warmed39 s.vm) (hw : ∀ d ∈ words, d.before a0 Z = true) {kI : Nat} (wi : (Jvm.Cond.instantiable ST kI).before a0 Z = true)
    {x b : Addr} {A : Cell} {z : Int32} {v0 c0 : Value} (E : RoadKit.Exa Z h x ST) (V : RoadKit.Fld Z h x ST "value" "[B" v0) (C : RoadKit.Fld Z h x ST "coder" "B" c0) (K : RoadKit.Arr Z h b A .char) (hty : Typed .char A) (S : RoadKit.Sta Z h ST "COMPACT_STRINGS" "Z" (.int z)) (hz : ¬ z = 0)
    (l0 : 0 < A.slots.size) (l2 : A.slots.size ≤ 536870912) (hp : ∀ i, i < A.slots.size → ¬ 255 < cv A i) (hfr : 4 ≤ R.frames) (hlo : W + 65 ≤ R.locals) :
    Back l R p e below s args New1.yN len W (fun P a => a = #[.ref x, .ref b] ∧ P.U.heap = h ∧ P.cells + 1 ≤ R.cells ∧ P.slots + A.slots.size ≤ R.slots)
      (fun P _ v B => ∃ L, Q Z x A h v B.U.heap L ∧ B.locs = P.locs ++ L ∧ B.cells = P.cells + 1 ∧ B.slots = P.slots + A.slots.size) := by
  intro m meth c P g ig mk a X hg hsize hdg hW hn hp'
  obtain ⟨rfl, rfl, r1, r2⟩ := hp'
  have al : Z.vm.Alike P.U.vm := hZ.alike.trans X.warmed.alike
  obtain ⟨D, cfV, kV, iV, fV, hD, gV, stV, knV, obV, asV, slV⟩ := id V
  obtain ⟨D', cfC, kC, iC, fC, hD', gC, stC, -, -, asC, slC⟩ := id C
  cases hD.symm.trans hD'
  obtain ⟨D2, kD, e1, e2, e3, e4, e5⟩ := id E
  cases hD.symm.trans e1
  obtain ⟨c2, k2, i1, i2, i3, -⟩ := Cond.instantiable_spec wi
  cases e2.symm.trans i1
  cases e3.symm.trans i2
  obtain ⟨kU, u1, u2⟩ := al.2.2 _ _ e3
  have hB : Blank ST x D P.U := ⟨hD, ⟨knV, fun q hq => by rw [hq] at obV; cases obV⟩, by rw [al.findClass]; exact e2, kU, u1, by rw [u2]; exact i3, by rw [u2]; exact e5 i3⟩
  have F1 : Found ST "value" "[B" fV P.U := ⟨SBG.found_only al ⟨cfV, kV, iV, gV⟩, stV⟩
  have F2 : Found ST "coder" "B" fC P.U := ⟨SBG.found_only al ⟨cfC, kC, iC, gC⟩, stC⟩
  have hA : Ch b A P.U := ⟨⟨K.1, State.isArrayOf_alike al K.2.1, K.2.2, by omega⟩, hty⟩
  have hS : StaticIs P.U ST "COMPACT_STRINGS" "Z" (.int z) := by
    obtain ⟨cfS, iS, kS, fS, st, cS, t1, t2, t3, t4, t5, t6, t7⟩ := S
    exact StaticIs.there (s := { Z with heap := P.U.heap }) ⟨cfS, iS, kS, fS, st, cS, t1, t2, t3, t4, t5, (fun q => by rw [q] at t6; cases t6), t7⟩ al rfl
  obtain ⟨v, B, X', ⟨⟨hv, E', V', q1, q2, q3, q4, q5, q6, q7, q8, q9, q10, q11⟩, hl, hc, hs⟩, st⟩ := New1.pays x D fV fC b A z (tab_of (moved hZ hw)) hfr hlo m meth c P g ig mk _ X hg hsize hdg hW hn ⟨r1, r2, rfl, hB, F1, F2, hA, hS, hz, l0, l2, hp⟩
  have al' : Z.vm.Alike B.U.vm := hZ.alike.trans X'.warmed.alike
  have hsz : E'.slots.size = D.slots.size := by
    obtain ⟨-, -, -, kB, w1, w2, w3⟩ := q1
    obtain ⟨kB', y1, y2⟩ := al'.2.2 _ _ e3
    rw [q2.2.1] at w1
    cases w1.symm.trans y1
    rw [w3, e5 i3, y2]
  refine ⟨v, B, X', ⟨_, ⟨hv, ?_, ⟨by omega, fun y cy hy hn' => q10 y cy (by simpa using hn') hy, fun y cy hy => ?_⟩, q11, ⟨E', _, q1.1, by rw [q2.2.1]; exact e2, by rw [q2.2.1]; exact e3, by rw [q2.1]; exact obV, fun _ => by rw [hsz]; exact e5 i3⟩,
    ⟨E', cfV, kV, iV, fV, q1.1, gV, stV, by rw [q2.1]; exact knV, by rw [q2.1]; exact obV, by rw [q2.2.1]; exact asV, q3⟩, ⟨E', cfC, kC, iC, fC, q1.1, gC, stC, by rw [q2.1]; exact knV, by rw [q2.1]; exact obV, by rw [q2.2.1]; exact asC, q4⟩,
    ⟨V', ⟨q5.1, State.isArrayOf_alike al'.symm q5.2.1, q5.2.2.1⟩, q6, by rw [← al'.findClass]; exact q7, q8, fun j hj => by have := q9 j hj; rwa [Nat.zero_add] at this⟩, fun O n d w F n1 n2 => ?_⟩, hl, hc, hs⟩, st⟩
  · intro y hy
    simp only [List.mem_cons, List.not_mem_nil, or_false] at hy
    rcases hy with rfl | rfl <;> rfl
  · by_cases q : y = x
    · subst q
      cases hD.symm.trans hy
      exact ⟨E', q1.1, q2.2.1, q2.1, hsz⟩
    · exact ⟨cy, q10 y cy q hy, rfl, rfl, rfl⟩
  · obtain ⟨D3, cf, k, i, f, g1, g2, g3, g4, g5, g6, g7⟩ := F
    cases hD.symm.trans g1
    simp only [RoadKit.slotOf, g2, gV, gC, Option.map_some, Option.getD_some] at n1 n2
    exact ⟨E', cf, k, i, f, q1.1, g2, g3, by rw [q2.1]; exact g4, by rw [q2.1]; exact g5, by rw [q2.2.1]; exact g6, by rw [q2.2.2 f.slot (by simp [n1, n2])]; exact g7⟩
end StrChars.Road
namespace StrChars.Road
open Jvm Sem ClassFile Op Lib Jvm.Stand Jvm.Free Jvm.Free.XT
/-- WHAT COMES BACK, the byte[] as a list of values -/
def QA (Z : State) (x : Addr) (zn : Int32) (cs : List Int32) (h : Heap) (v : Option Value) (h' : Heap) (L : List Loc) : Prop := v = none ∧ (∀ y ∈ L, y.base = x) ∧ RoadKit.Keep h h' [x] ∧ h'.size = h.size + 1 ∧ RoadKit.Exa Z h' x ST ∧ RoadKit.Fld Z h' x ST "value" "[B" (.ref h.size) ∧ RoadKit.Fld Z h' x ST "coder" "B" (.int 0) ∧
  (∃ kb, Z.vm.findClass "[B" = some kb ∧ RoadKit.Arv Z h' h.size kb .byte zn (cs.map fun c => .int (lo8 c)) (.int 0)) ∧
  ∀ (O n d : String) (w : Value), RoadKit.Fld Z h x O n d w → RoadKit.slotOf Z O n d ≠ RoadKit.slotOf Z ST "value" "[B" → RoadKit.slotOf Z O n d ≠ RoadKit.slotOf Z ST "coder" "B" → RoadKit.Fld Z h' x O n d w
/-- **new String(chars) AT A CALL, THE ARRAYS AS LISTS**: the char[] at b holds cs, not empty, no char above 255 -/
theorem backArv {p : Program} {l : Launch} {e : Env} {R : Room} {s : State} {args : Array Value} {below : List Frame} {len W : Nat} {Z : State} {a0 : Array Value} {h : Heap} (hZ : Z.Warmed39 s.vm) (hw : ∀ d ∈ words, d.before a0 Z = true) {kI : Nat} (wi : (Jvm.Cond.instantiable ST kI).before a0 Z = true)
    {x b : Addr} {k : ClassId} {zn z : Int32} {cs : List Int32} {dv v0 c0 : Value} (E : RoadKit.Exa Z h x ST) (V : RoadKit.Fld Z h x ST "value" "[B" v0) (C : RoadKit.Fld Z h x ST "coder" "B" c0) (K : RoadKit.Arv Z h b k .char zn (cs.map Value.int) dv) (S : RoadKit.Sta Z h ST "COMPACT_STRINGS" "Z" (.int z)) (hz : ¬ z = 0)
    (hlen : zn.toNatClampNeg = cs.length) (h0 : 0 < cs.length) (hbig : cs.length ≤ 536870912) (hall : ∀ c ∈ cs, ¬ 255 < c) (hfr : 4 ≤ R.frames) (hlo : W + 65 ≤ R.locals) :
    Back l R p e below s args New1.yN len W (fun P a => a = #[.ref x, .ref b] ∧ P.U.heap = h ∧ P.cells + 1 ≤ R.cells ∧ P.slots + cs.length ≤ R.slots)
      (fun P _ v B => ∃ L, QA Z x zn cs h v B.U.heap L ∧ B.locs = P.locs ++ L ∧ B.cells = P.cells + 1 ∧ B.slots = P.slots + cs.length) := by
  obtain ⟨A, K1, K2, K3, K4, K5, K6⟩ := K
  have e : A.slots.size = cs.length := K3.trans hlen
  have hat : ∀ (i : Nat) (hi : i < cs.length), A.slots[i]? = some (.int cs[i]) := fun i hi => by rw [K5 i (by omega)]; simp [List.getD_eq_getElem?_getD, hi]
  have hcv : ∀ (i : Nat) (hi : i < cs.length), cv A i = cs[i] := fun i hi => by unfold cv; rw [hat i hi]
  have hty : Typed .char A := fun i v hv => by
    have hi : i < A.slots.size := (Array.getElem?_eq_some_iff.mp hv).1
    have q := K5 i hi
    rw [hv] at q
    rw [Option.some.inj q]
    exact K6 i hi
  refine Back.mono (back hZ hw wi E V C K1 hty S hz (by omega) (by omega) (fun i hi => by rw [hcv i (by omega)]; exact hall _ (List.getElem_mem _)) hfr hlo) (fun P a hp => ⟨hp.1, hp.2.1, hp.2.2.1, by rw [e]; exact hp.2.2.2⟩) (fun P a v B hp hq => ?_)
  obtain ⟨L, ⟨q1, q2, q3, q4, q5, q6, q7, ⟨V', v1, v2, v3, v4, v5⟩, q9⟩, hl, hc, hs⟩ := hq
  refine ⟨L, ⟨q1, q2, q3, q4, q5, q6, q7, ⟨V'.cls, v3, V', v1, rfl, by rw [v4, e, hlen], K4, fun i hi => ?_, fun i hi => ?_⟩, q9⟩, hl, hc, by rw [hs, e]⟩
  · have hi' : i < cs.length := by omega
    rw [v5 i (by omega), hcv i hi']; simp [List.getD_eq_getElem?_getD, hi']
  · have hi' : i < cs.length := by omega
    simp only [List.getD_eq_getElem?_getD, List.getElem?_map, List.getElem?_eq_getElem hi', Option.map_some, Option.getD_some]
    exact fits_lo8 _
end StrChars.Road
namespace StrChars.Road
open Jvm Sem ClassFile Op Lib Jvm.Stand Jvm.Free Jvm.Free.XT
/-- WHAT COMES BACK, in the writer's own shape -/
def QV (Z : State) (x : Addr) (N : Int32) (bs : List Int32) (h : Heap) (n0 : Nat) (v : Option Value) (h' : Heap) (L : List Loc) : Prop := v = none ∧ RoadKit.Fr n0 L ∧ RoadKit.Keep h h' [x] ∧ RoadKit.Exa Z h' x ST ∧ RoadKit.Fld Z h' x ST "coder" "B" (.int 0) ∧
  ∃ (t : Addr) (kb : ClassId), n0 ≤ t ∧ h.size ≤ t ∧ ¬ t = x ∧ RoadKit.Fld Z h' x ST "value" "[B" (.ref t) ∧ RoadKit.Arv Z h' t kb .byte N (bs.map Value.int) (.int 0)
/-- **new String(chars) AT A CALL, FOR THE WRITER**: a char[] of n known ints, each 0 to 255 -/
theorem backV {p : Program} {l : Launch} {e : Env} {R : Room} {s : State} {args : Array Value} {below : List Frame} {len W : Nat} {Z : State} {a0 : Array Value} {h : Heap} (hZ : Z.Warmed39 s.vm) (hw : ∀ d ∈ words, d.before a0 Z = true) {kI : Nat} (wi : (Jvm.Cond.instantiable ST kI).before a0 Z = true)
    {x b : Addr} {kC : ClassId} {cs bs : List Int32} {d v0 c0 : Value} {z N : Int32} {n n0 : Nat} (hx0 : n0 ≤ x) (hh0 : n0 ≤ h.size) (E : RoadKit.Exa Z h x ST) (V : RoadKit.Fld Z h x ST "value" "[B" v0) (C : RoadKit.Fld Z h x ST "coder" "B" c0) (K : RoadKit.Arv Z h b kC .char N (cs.map Value.int) d) (S : RoadKit.Sta Z h ST "COMPACT_STRINGS" "Z" (.int z)) (hz : ¬ z = 0)
    (hn : cs.length = n) (hN : N = Int32.ofNat n) (l0 : 0 < n) (l2 : n ≤ 4000) (hp : ∀ c ∈ cs, ¬ c < 0 ∧ ¬ (255 : Int32) < c) (hb : bs = cs.map (fun c => c.toInt8.toInt32)) (hfr : 4 ≤ R.frames) (hlo : W + 65 ≤ R.locals) :
    Back l R p e below s args (⟨"java/lang/String", "<init>", "([C)V"⟩ : MethodName) len W (fun P a => a = #[.ref x, .ref b] ∧ P.U.heap = h ∧ P.cells + 1 ≤ R.cells ∧ P.slots + n ≤ R.slots)
      (fun P _ v B => ∃ L, QV Z x N bs h n0 v B.U.heap L ∧ B.locs = P.locs ++ L ∧ B.cells = P.cells + 1 ∧ B.slots = P.slots + n) := by
  subst hn hN hb
  refine Back.mono (backArv hZ hw wi E V C K S hz (n32 (by omega)) l0 (by omega) (fun c hc => (hp c hc).2) hfr hlo) (fun P a hp => hp) (fun P a v B hp hq => ?_)
  obtain ⟨L, ⟨q1, q2, q3, q4, q5, q6, q7, ⟨kb, v1, v2⟩, q9⟩, hl, hc, hs⟩ := hq
  exact ⟨L, ⟨q1, fun y hy => by rw [q2 y hy]; exact hx0, q3, q5, q7, h.size, kb, hh0, Nat.le_refl _, Nat.ne_of_gt E.lt, q6, by rw [List.map_map]; exact v2⟩, hl, hc, hs⟩
end StrChars.Road
namespace StrChars
open Jvm Sem ClassFile Op Lib Jvm.Stand Jvm.Free.XT Jvm.Free.ALB Jvm.Free.JM Jvm.Free
open Jvm.Lib.Cold (StaticIs)
def hi8 (x : Int32) : Int32 := lo8 (x >>> ((8 : Int32) &&& 31))
/-- what StringUTF16.getChar makes of two bytes -/
def pairCh (u v : Int32) : Int32 := (((u &&& 255) <<< ((0 : Int32) &&& 31)) ||| ((v &&& 255) <<< ((8 : Int32) &&& 31))).toUInt32.toUInt16.toUInt32.toInt32
theorem shr0 (c : Int32) : c >>> ((0 : Int32) &&& 31) = c := by
  have e : ((0 : Int32) &&& 31) = 0 := by decide
  rw [e]
  apply Int32.toBitVec_inj.mp
  rw [Int32.toBitVec_shiftRight]
  have e1 : ((0 : Int32).toBitVec.smod 32) = 0#32 := by decide
  rw [e1, BitVec.sshiftRight_eq']
  exact BitVec.sshiftRight_zero
theorem lo8_and (x : Int32) : (lo8 x &&& 255).toBitVec.toNat = x.toBitVec.toNat % 256 := by
  have h : (lo8 x).toBitVec = (x.toBitVec.signExtend 8).signExtend 32 := by rw [lo8, Int8.toBitVec_toInt32, Int32.toBitVec_toInt8]
  rw [Int32.toBitVec_and, BitVec.toNat_and, h]
  have e : ((x.toBitVec.signExtend 8).signExtend 32).toNat % 256 = x.toBitVec.toNat % 256 := by
    rw [BitVec.toNat_signExtend]
    have hlt := x.toBitVec.isLt
    simp only [BitVec.toNat_setWidth, BitVec.toNat_signExtend]
    split <;> split <;> omega
  rw [← e]
  exact Nat.and_two_pow_sub_one_eq_mod _ 8
theorem pair_says {c : Int32} (h0 : ¬ c < 0) (h1 : ¬ 65535 < c) : pairCh (lo8 c) (hi8 c) = c := by
  rw [Int32.lt_iff_toInt_lt] at h0 h1
  have e0 : (0 : Int32).toInt = 0 := rfl
  have e1 : (65535 : Int32).toInt = 65535 := rfl
  have hc : c.toInt = c.toBitVec.toNat := by
    have := c.toBitVec.isLt
    have e : c.toInt = c.toBitVec.toInt := rfl
    rw [e] at h0 h1
    rw [e]
    rw [BitVec.toInt_eq_toNat_cond] at h0 h1 ⊢
    split at h0 <;> split <;> omega
  have hn : c.toBitVec.toNat < 65536 := by omega
  have a1 := lo8_and c
  have a2 : (hi8 c &&& 255).toBitVec.toNat = c.toBitVec.toNat / 256 := by
    rw [hi8, lo8_and]
    have e : ((8 : Int32) &&& 31) = 8 := by decide
    rw [e, Int32.toBitVec_shiftRight]
    have e2 : ((8 : Int32).toBitVec.smod 32) = 8#32 := by decide
    rw [e2, BitVec.sshiftRight_eq', BitVec.toNat_sshiftRight_of_msb_false (by rw [BitVec.msb_eq_false_iff_two_mul_lt]; omega)]
    show c.toBitVec.toNat >>> 8 % 256 = _
    rw [Nat.shiftRight_eq_div_pow]
    omega
  unfold pairCh
  apply Int32.toBitVec_inj.mp
  apply BitVec.eq_of_toNat_eq
  have f0 : ((0 : Int32) &&& 31) = 0 := by decide
  have f8 : ((8 : Int32) &&& 31) = 8 := by decide
  rw [f0, f8]
  have g : (((lo8 c &&& 255) <<< (0 : Int32)) ||| ((hi8 c &&& 255) <<< (8 : Int32))).toBitVec.toNat = c.toBitVec.toNat := by
    rw [Int32.toBitVec_or, Int32.toBitVec_shiftLeft, Int32.toBitVec_shiftLeft]
    have s0 : ((0 : Int32).toBitVec.smod 32) = 0#32 := by decide
    have s8 : ((8 : Int32).toBitVec.smod 32) = 8#32 := by decide
    rw [s0, s8, BitVec.toNat_or]
    simp only [BitVec.shiftLeft_eq', BitVec.toNat_shiftLeft, a1, a2]
    show (c.toBitVec.toNat % 256) <<< 0 % 2 ^ 32 ||| (c.toBitVec.toNat / 256) <<< 8 % 2 ^ 32 = _
    rw [Nat.shiftLeft_zero, Nat.mod_eq_of_lt (show c.toBitVec.toNat % 256 < 2 ^ 32 by omega), Nat.mod_eq_of_lt (show (c.toBitVec.toNat / 256) <<< 8 < 2 ^ 32 by rw [Nat.shiftLeft_eq]; omega), Nat.or_comm, ← Nat.shiftLeft_add_eq_or_of_lt (by omega), Nat.shiftLeft_eq]
    omega
  show BitVec.toNat (((((lo8 c &&& 255) <<< (0 : Int32)) ||| ((hi8 c &&& 255) <<< (8 : Int32))).toBitVec.setWidth 16).setWidth 32) = _
  rw [BitVec.toNat_setWidth, BitVec.toNat_setWidth, g]
  omega
end StrChars
namespace StrChars
open Jvm Sem ClassFile Op Lib Jvm.Stand Jvm.Free.XT Jvm.Free.ALB Jvm.Free.JM Jvm.Free
open Jvm.Lib.Cold (StaticIs)
theorem shr1 {n : Nat} (h : 2 * n < 2 ^ 31) : Int32.ofNat (2 * n) >>> ((1 : Int32) &&& 31) = Int32.ofNat n := by
  have e : ((1 : Int32) &&& 31) = 1 := by decide
  rw [e]
  apply Int32.toBitVec_inj.mp
  rw [Int32.toBitVec_shiftRight]
  have e1 : ((1 : Int32).toBitVec.smod 32) = 1#32 := by decide
  have hm : (BitVec.ofNat 32 (2 * n)).toNat = 2 * n := by rw [BitVec.toNat_ofNat, Nat.mod_eq_of_lt (by omega)]
  rw [e1, BitVec.sshiftRight_eq']
  apply BitVec.eq_of_toNat_eq
  show ((BitVec.ofNat 32 (2 * n)).sshiftRight 1).toNat = (BitVec.ofNat 32 n).toNat
  rw [BitVec.toNat_sshiftRight_of_msb_false (by rw [BitVec.msb_eq_false_iff_two_mul_lt, hm]; omega), hm, BitVec.toNat_ofNat, Nat.shiftRight_eq_div_pow]
  omega
/-- charAt's cast of a byte read back -/
def chr8 (u : Int32) : Int32 := (u &&& 255).toUInt32.toUInt16.toUInt32.toInt32
theorem chr8_lo8 {c : Int32} (h0 : ¬ c < 0) (h1 : ¬ 255 < c) : chr8 (lo8 c) = c := by
  have t : ∀ k : Fin 256, (Int32.ofNat k.val).toUInt32.toUInt16.toUInt32.toInt32 = Int32.ofNat k.val := by decide +kernel
  unfold chr8
  rw [lo8_mask h0 h1]
  rw [Int32.lt_iff_toInt_lt] at h0 h1
  have e0 : (0 : Int32).toInt = 0 := rfl
  have e1 : (255 : Int32).toInt = 255 := rfl
  obtain ⟨k, hk⟩ : ∃ k : Nat, c.toInt = k := ⟨c.toInt.toNat, by omega⟩
  have hx : c = Int32.ofNat k := Int32.toInt_inj.mp (by rw [hk, Int32.toInt_ofNat_small (by omega)])
  rw [hx]
  exact t ⟨k, by omega⟩
theorem narrow_ch {c : Int32} (h0 : ¬ c < 0) (h1 : ¬ 65535 < c) : narrow .char (.int c) = .int c := by
  have q : narrow .char (.int (pairCh (lo8 c) (hi8 c))) = .int (pairCh (lo8 c) (hi8 c)) := narrow_c _
  rwa [pair_says h0 h1] at q
/-- the array's cell V codes the n chars f 0 .. f (n - 1) by the coder cd, as the JDK does: coder 1 just where some char is above 255 -/
def Cod (cd : Int32) (n : Nat) (f : Nat → Int32) (V : Cell) : Prop := (cd = 0 ∧ V.slots.size = n ∧ ∀ j, j < n → V.slots[j]? = some (.int (lo8 (f j))) ∧ ¬ 255 < f j) ∨ (cd = 1 ∧ V.slots.size = 2 * n ∧ (∀ j, j < n → V.slots[2 * j]? = some (.int (lo8 (f j))) ∧ V.slots[2 * j + 1]? = some (.int (hi8 (f j)))) ∧ ∃ j, j < n ∧ 255 < f j)
theorem Cod.cd {cd : Int32} {n : Nat} {f : Nat → Int32} {V : Cell} (h : Cod cd n f V) : cd = 0 ∨ cd = 1 := h.imp (fun q => q.1) fun q => q.1
theorem Cod.len {cd : Int32} {n : Nat} {f : Nat → Int32} {V : Cell} (h : Cod cd n f V) (hs : V.slots.size < 2 ^ 31) : Int32.ofNat V.slots.size >>> (cd &&& 31) = Int32.ofNat n := by
  rcases h with ⟨rfl, h, -⟩ | ⟨rfl, h, -⟩
  · rw [shr0, h]
  · rw [h, shr1 (by omega)]
/-- **x is a String of the n chars f 0 .. f (n - 1)**, Latin-1 or UTF-16; its array at t has the cell V -/
def Txt (x t : Addr) (V : Cell) (cd : Int32) (n : Nat) (f : Nat → Int32) (U : State) : Prop := Exact "java/lang/String" x U ∧ Has x "java/lang/String" "value" "[B" (.ref t) U ∧ Has x "java/lang/String" "coder" "B" (.int cd) U ∧ XT.Arr .byte t V U ∧ Cod cd n f V ∧ ∀ j, j < n → ¬ f j < 0 ∧ ¬ 65535 < f j
theorem Txt.mv {x t : Addr} {V : Cell} {cd : Int32} {n : Nat} {f : Nat → Int32} {U U' : State} (h : Txt x t V cd n f U) (hal : U.vm.Alike U'.vm) (hh : U'.heap = U.heap) : Txt x t V cd n f U' := ⟨h.1.mv hal hh, h.2.1.mv hal hh, h.2.2.1.mv hal hh, h.2.2.2.1.mv hal hh, h.2.2.2.2⟩
namespace Cdr
def yN : MethodName := ⟨"java/lang/String", "coder", "()B"⟩
abbrev yB : ByteArray := jdk_42_method_152_code
theorem d0 : decode yB 0 = .ok (.getstatic 38, 3) := by decide +kernel
theorem d3 : decode yB 3 = .ok (.ifCond (.eq) 10, 3) := by decide +kernel
theorem d6 : decode yB 6 = .ok (.aload_n 0, 1) := by decide +kernel
theorem d7 : decode yB 7 = .ok (.getfield 15, 3) := by decide +kernel
theorem d10 : decode yB 10 = .ok (.goto 4, 3) := by decide +kernel
theorem d14 : decode yB 14 = .ok (.ireturn, 1) := by decide +kernel
def site : List Cond := [.fieldLink "java/lang/String" 38 "java/lang/String" "COMPACT_STRINGS" "Z", .fieldLink "java/lang/String" 15 "java/lang/String" "coder" "B"]
def tab : Cond := tabOf yN yB 1 (some .byte) site
def P (x : Addr) (cd z : Int32) (args : Array Value) (s : State) : Prop := args = #[.ref x] ∧ Has x "java/lang/String" "coder" "B" (.int cd) s ∧ (cd = 0 ∨ cd = 1) ∧ StaticIs s "java/lang/String" "COMPACT_STRINGS" "Z" (.int z) ∧ ¬ z = 0
def E (cd : Int32) (r : Option Value) (s u : State) : Prop := XT.PureE (some (.int cd)) r s u
theorem law (l : Launch) (x : Addr) (cd z : Int32) : Law l yN 1 0 0 0 yB 1 (some .byte) site (P x cd z) (E cd) [] 0 0 := by
  refine Law.of_walk (plainFor_of_name (by decide +kernel)) (by decide +kernel) (by decide +kernel) (by decide) (fun _ _ h => by rw [h.1]; rfl) (fun _ U U' hal hh h => ⟨h.1, h.2.1.mv hal hh, h.2.2.1, h.2.2.2.1.there hal hh, h.2.2.2.2⟩) (fun r U U' V V' h1 hal h2 h => XT.PureE.mv r U U' V V' h1 hal h2 h) ?_
  intro p e s m args below meth c s₁ X0 hexec hbytes hml hret hlk hnm hown hh0 W hP
  obtain ⟨rfl, hx, hc, s1, hz⟩ := hP
  have c1 : Steps p.tables e below (s₁.setTop (entryFrame m #[.ref x] 1)) (s₁.setTop (mkF m 0 #[.val (.ref x)] [])) := entry rfl
  obtain ⟨T2, X2, q2, st2⟩ := X0.sget hexec hown (wk W (.fieldLink "java/lang/String" 38 "java/lang/String" "COMPACT_STRINGS" "Z")) s1 (fun _ _ h => by rw [hh0]; exact h) (g := (mkF m 0 #[.val (.ref x)] [])) rfl (hb hbytes d0)
  have hh2 := q2.trans hh0
  have c3 : Steps p.tables e below (s₁.setTop (entryFrame m #[.ref x] 1)) (T2.setTop (mkF m 7 #[.val (.ref x)] [.ref x])) := (c1.trans (st2 _ (Steps.refl _))).trans (by
    refine XS.ifNo X2.here hexec rfl (hb hbytes d3) rfl (i0_eq_f hz) ?_
    refine XS.aloadN X2.here hexec rfl (hb hbytes d6) rfl rfl ?_
    exact Steps.refl _)
  obtain ⟨T4, X4, q4, st4⟩ := X2.hget hexec hown (wk W (.fieldLink "java/lang/String" 15 "java/lang/String" "coder" "B")) (hx.mv X2.warmed.alike hh2) (g := (mkF m 7 #[.val (.ref x)] [.ref x])) rfl (rest := []) rfl (hb hbytes d7)
  have c5 : Steps p.tables e below (s₁.setTop (entryFrame m #[.ref x] 1)) (T4.setTop (mkF m 14 #[.val (.ref x)] [.int cd])) := (c3.trans (st4 _ (Steps.refl _))).trans (by
    refine XS.goto X4.here hexec rfl (pc0 := 10) rfl (hb hbytes d10) (by decide) rfl ?_
    exact Steps.refl _)
  exact ⟨T4, some (.int cd), _, _, _, X4, rfl, rfl, rfl, (fun h => by cases h), ⟨rfl, q4.trans hh2⟩, fun fs hl => c5.trans (X4.ireturnOut hexec hret (by rcases hc with rfl | rfl <;> rfl) (Or.inr (Or.inr (Or.inl rfl))) (hb hbytes d14) hl)⟩
end Cdr
namespace Len
def yN : MethodName := ⟨"java/lang/String", "length", "()I"⟩
abbrev yB : ByteArray := jdk_42_method_54_code
theorem d0 : decode yB 0 = .ok (.aload_n 0, 1) := by decide +kernel
theorem d1 : decode yB 1 = .ok (.getfield 9, 3) := by decide +kernel
theorem d4 : decode yB 4 = .ok (.arraylength, 1) := by decide +kernel
theorem d5 : decode yB 5 = .ok (.aload_n 0, 1) := by decide +kernel
theorem d6 : decode yB 6 = .ok (.invokevirtual 335, 3) := by decide +kernel
theorem d9 : decode yB 9 = .ok (.ishr, 1) := by decide +kernel
theorem d10 : decode yB 10 = .ok (.ireturn, 1) := by decide +kernel
def site : List Cond := [.fieldLink "java/lang/String" 9 "java/lang/String" "value" "[B", Cdr.tab] ++ virtW "java/lang/String" 335 "java/lang/String" Cdr.yN Cdr.yN
def tab : Cond := tabOf yN yB 1 (some .int) site
def P (x t : Addr) (V : Cell) (cd : Int32) (n : Nat) (f : Nat → Int32) (z : Int32) (args : Array Value) (s : State) : Prop := args = #[.ref x] ∧ Txt x t V cd n f s ∧ StaticIs s "java/lang/String" "COMPACT_STRINGS" "Z" (.int z) ∧ ¬ z = 0
def E (n : Nat) (r : Option Value) (s u : State) : Prop := XT.PureE (some (.int (Int32.ofNat n))) r s u
/-- length() of a String of n chars, in either coding -/
theorem law (l : Launch) (x t : Addr) (V : Cell) (cd : Int32) (n : Nat) (f : Nat → Int32) (z : Int32) : Law l yN 1 0 1 13 yB 1 (some .int) site (P x t V cd n f z) (E n) [] 0 0 := by
  refine Law.of_walk (plainFor_of_name (by decide +kernel)) (by decide +kernel) (by decide +kernel) (by decide) (fun _ _ h => by rw [h.1]; rfl) (fun _ U U' hal hh h => ⟨h.1, h.2.1.mv hal hh, h.2.2.1.there hal hh, h.2.2.2⟩) (fun r U U' V V' h1 hal h2 h => XT.PureE.mv r U U' V V' h1 hal h2 h) ?_
  intro p e s m args below meth c s₁ X0 hexec hbytes hml hret hlk hnm hown hh0 W hP
  obtain ⟨rfl, hx, s1, hz⟩ := hP
  have v31 := hx.2.2.2.1.2.2.2
  have c1 : Steps p.tables e below (s₁.setTop (entryFrame m #[.ref x] 1)) (s₁.setTop (mkF m 1 #[.val (.ref x)] [.ref x])) := Steps.trans (entry rfl) (by
    show Steps p.tables e below (s₁.setTop (mkF m 0 #[.val (.ref x)] [])) _
    refine XS.aloadN X0.here hexec rfl (hb hbytes d0) rfl rfl ?_
    exact Steps.refl _)
  obtain ⟨T2, X2, q2, st2⟩ := X0.hget hexec hown (wk W (.fieldLink "java/lang/String" 9 "java/lang/String" "value" "[B")) (hx.mv X0.warmed.alike hh0).2.1 (g := (mkF m 1 #[.val (.ref x)] [.ref x])) rfl (rest := []) rfl (hb hbytes d1)
  have hh2 := q2.trans hh0
  have hx2 := hx.mv X2.warmed.alike hh2
  have c3 : Steps p.tables e below (s₁.setTop (entryFrame m #[.ref x] 1)) (T2.setTop (mkF m 6 #[.val (.ref x)] [.ref x, .int (Int32.ofNat V.slots.size)])) := (c1.trans (st2 _ (Steps.refl _))).trans (by
    refine X2.alen hexec hx2.2.2.2.1 rfl rfl (hb hbytes d4) ?_
    refine XS.aloadN X2.here hexec rfl (hb hbytes d5) rfl rfl ?_
    exact Steps.refl _)
  obtain ⟨v4, T4, X4, E4, g4⟩ := X2.callV hexec (Cdr.law l x cd z) hown (wks W (virtW "java/lang/String" 335 "java/lang/String" Cdr.yN Cdr.yN)) rfl (by decide) (wk W Cdr.tab) (W := 1) (Nat.le_of_ble_eq_true rfl) (Nat.le_of_ble_eq_true rfl) (Nat.le_refl _) (Nat.le_refl _) (hx2.1.fc X2.warmed.alike) hx2.1.is (g := (mkF m 6 #[.val (.ref x)] [.ref x, .int (Int32.ofNat V.slots.size)])) rfl (by rw [hml]; rfl) c3 (argsL := []) (rest := [.int (Int32.ofNat V.slots.size)]) rfl rfl (by show 2 * 0 + (1 + 0) ≤ _; decide) (hb hbytes d6) (⟨rfl, hx2.2.2.1, hx.2.2.2.2.1.cd, s1.there X2.warmed.alike hh2, hz⟩)
  obtain ⟨rfl, q4⟩ := E4
  have c5 : Steps p.tables e below (s₁.setTop (entryFrame m #[.ref x] 1)) (T4.setTop (mkF m 10 #[.val (.ref x)] [.int (Int32.ofNat V.slots.size >>> (cd &&& 31))])) := Steps.trans g4 (by
    refine ishr X4.here hexec rfl (hb hbytes d9) rfl ?_
    exact Steps.refl _)
  rw [hx.2.2.2.2.1.len v31] at c5
  exact ⟨T4, some (.int (Int32.ofNat n)), _, _, _, X4, rfl, rfl, rfl, (fun h => by cases h), ⟨rfl, q4.trans hh2⟩, fun fs hl => c5.trans (X4.ireturnOut hexec hret rfl (Or.inl rfl) (hb hbytes d10) hl)⟩
theorem pays {l : Launch} {R : Room} {p : Program} {e : Env} {below : List Frame} {s : State} {sargs : Array Value} {len W : Nat} (x t : Addr) (V : Cell) (cd : Int32) (n : Nat) (f : Nat → Int32) (z : Int32) (htab : tab.before sargs s = true) (hfr : 2 ≤ R.frames) (hlo : W + 25 ≤ R.locals) :
    Back l R p e below s sargs yN len W (fun A₁ a₁ => A₁.cells + 0 ≤ R.cells ∧ A₁.slots + 0 ≤ R.slots ∧ P x t V cd n f z a₁ A₁.U) (fun A₁ _ v₁ B₁ => E n v₁ A₁.U B₁.U ∧ B₁.locs = A₁.locs ++ [] ∧ B₁.cells = A₁.cells + 0 ∧ B₁.slots = A₁.slots + 0) :=
  (law l x t V cd n f z).pays htab hfr (by omega)
end Len
namespace IsL
def yN : MethodName := ⟨"java/lang/String", "isLatin1", "()Z"⟩
abbrev yB : ByteArray := jdk_42_method_154_code
theorem d0 : decode yB 0 = .ok (.getstatic 38, 3) := by decide +kernel
theorem d3 : decode yB 3 = .ok (.ifCond (.eq) 14, 3) := by decide +kernel
theorem d6 : decode yB 6 = .ok (.aload_n 0, 1) := by decide +kernel
theorem d7 : decode yB 7 = .ok (.getfield 15, 3) := by decide +kernel
theorem d10 : decode yB 10 = .ok (.ifCond (.ne) 7, 3) := by decide +kernel
theorem d13 : decode yB 13 = .ok (.iconst 1, 1) := by decide +kernel
theorem d14 : decode yB 14 = .ok (.goto 4, 3) := by decide +kernel
theorem d17 : decode yB 17 = .ok (.iconst 0, 1) := by decide +kernel
theorem d18 : decode yB 18 = .ok (.ireturn, 1) := by decide +kernel
def site : List Cond := [.fieldLink "java/lang/String" 38 "java/lang/String" "COMPACT_STRINGS" "Z", .fieldLink "java/lang/String" 15 "java/lang/String" "coder" "B"]
def tab : Cond := tabOf yN yB 1 (some .boolean) site
def P (x : Addr) (cd z : Int32) (args : Array Value) (s : State) : Prop := args = #[.ref x] ∧ Has x "java/lang/String" "coder" "B" (.int cd) s ∧ (cd = 0 ∨ cd = 1) ∧ StaticIs s "java/lang/String" "COMPACT_STRINGS" "Z" (.int z) ∧ ¬ z = 0
def E (cd : Int32) (r : Option Value) (s u : State) : Prop := XT.PureE (some (.int (1 - cd))) r s u
theorem law (l : Launch) (x : Addr) (cd z : Int32) : Law l yN 1 0 0 0 yB 1 (some .boolean) site (P x cd z) (E cd) [] 0 0 := by
  refine Law.of_walk (plainFor_of_name (by decide +kernel)) (by decide +kernel) (by decide +kernel) (by decide) (fun _ _ h => by rw [h.1]; rfl) (fun _ U U' hal hh h => ⟨h.1, h.2.1.mv hal hh, h.2.2.1, h.2.2.2.1.there hal hh, h.2.2.2.2⟩) (fun r U U' V V' h1 hal h2 h => XT.PureE.mv r U U' V V' h1 hal h2 h) ?_
  intro p e s m args below meth c s₁ X0 hexec hbytes hml hret hlk hnm hown hh0 W hP
  obtain ⟨rfl, hx, hc, s1, hz⟩ := hP
  have c1 : Steps p.tables e below (s₁.setTop (entryFrame m #[.ref x] 1)) (s₁.setTop (mkF m 0 #[.val (.ref x)] [])) := entry rfl
  obtain ⟨T2, X2, q2, st2⟩ := X0.sget hexec hown (wk W (.fieldLink "java/lang/String" 38 "java/lang/String" "COMPACT_STRINGS" "Z")) s1 (fun _ _ h => by rw [hh0]; exact h) (g := (mkF m 0 #[.val (.ref x)] [])) rfl (hb hbytes d0)
  have hh2 := q2.trans hh0
  have c3 : Steps p.tables e below (s₁.setTop (entryFrame m #[.ref x] 1)) (T2.setTop (mkF m 7 #[.val (.ref x)] [.ref x])) := (c1.trans (st2 _ (Steps.refl _))).trans (by
    refine XS.ifNo X2.here hexec rfl (hb hbytes d3) rfl (i0_eq_f hz) ?_
    refine XS.aloadN X2.here hexec rfl (hb hbytes d6) rfl rfl ?_
    exact Steps.refl _)
  obtain ⟨T4, X4, q4, st4⟩ := X2.hget hexec hown (wk W (.fieldLink "java/lang/String" 15 "java/lang/String" "coder" "B")) (hx.mv X2.warmed.alike hh2) (g := (mkF m 7 #[.val (.ref x)] [.ref x])) rfl (rest := []) rfl (hb hbytes d7)
  have c5 : Steps p.tables e below (s₁.setTop (entryFrame m #[.ref x] 1)) (T4.setTop (mkF m 10 #[.val (.ref x)] [.int cd])) := c3.trans (st4 _ (Steps.refl _))
  have c6 : Steps p.tables e below (s₁.setTop (entryFrame m #[.ref x] 1)) (T4.setTop (mkF m 18 #[.val (.ref x)] [.int (1 - cd)])) := by
    rcases hc with rfl | rfl
    · exact c5.trans (by
        refine XS.ifNo X4.here hexec rfl (hb hbytes d10) rfl (i0_ne_f rfl) ?_
        refine iconstV X4.here hexec rfl 1 (hb hbytes d13) (by decide) ?_
        refine XS.goto X4.here hexec rfl (pc0 := 14) rfl (hb hbytes d14) (by decide) rfl ?_
        exact Steps.refl _)
    · exact c5.trans (by
        refine XS.ifYes X4.here hexec rfl (pc0 := 10) rfl (hb hbytes d10) rfl (i0_ne_t (by decide)) (by decide) rfl ?_
        refine iconstV X4.here hexec rfl 0 (hb hbytes d17) (by decide) ?_
        exact Steps.refl _)
  exact ⟨T4, some (.int (1 - cd)), _, _, _, X4, rfl, rfl, rfl, (fun h => by cases h), ⟨rfl, q4.trans hh2⟩, fun fs hl => c6.trans (X4.ireturnOut hexec hret (by rcases hc with rfl | rfl <;> rfl) (Or.inr (Or.inl rfl)) (hb hbytes d18) hl)⟩
end IsL
namespace LChA
def yN : MethodName := ⟨"java/lang/StringLatin1", "charAt", "([BI)C"⟩
abbrev yB : ByteArray := jdk_43_method_2_code
theorem d0 : decode yB 0 = .ok (.iload_n 1, 1) := by decide +kernel
theorem d1 : decode yB 1 = .ok (.aload_n 0, 1) := by decide +kernel
theorem d2 : decode yB 2 = .ok (.arraylength, 1) := by decide +kernel
theorem d3 : decode yB 3 = .ok (.invokestatic 9, 3) := by decide +kernel
theorem d6 : decode yB 6 = .ok (.aload_n 0, 1) := by decide +kernel
theorem d7 : decode yB 7 = .ok (.iload_n 1, 1) := by decide +kernel
theorem d8 : decode yB 8 = .ok (.baload, 1) := by decide +kernel
theorem d9 : decode yB 9 = .ok (.sipush 255, 3) := by decide +kernel
theorem d12 : decode yB 12 = .ok (.iand, 1) := by decide +kernel
theorem d13 : decode yB 13 = .ok (.i2c, 1) := by decide +kernel
theorem d14 : decode yB 14 = .ok (.ireturn, 1) := by decide +kernel
def site : List Cond := [JO.Str_checkIndex.tab] ++ staticW "java/lang/StringLatin1" 9 JO.Str_checkIndex.yN
def tab : Cond := tabOf yN yB 2 (some .char) site
def P (t : Addr) (V : Cell) (i : Nat) (u : Int32) (fm : Value) (args : Array Value) (s : State) : Prop := args = #[.ref t, .int (Int32.ofNat i)] ∧ XT.Arr .byte t V s ∧ V.slots[i]? = some (.int u) ∧ (StaticIs s "jdk/internal/util/Preconditions" "SIOOBE_FORMATTER" "Ljava/util/function/BiFunction;" fm ∧ fm.isRef = true)
def E (u : Int32) (r : Option Value) (s w : State) : Prop := XT.PureE (some (.int (chr8 u))) r s w
theorem law (l : Launch) (t : Addr) (V : Cell) (i : Nat) (u : Int32) (fm : Value) : Law l yN 2 2 2 27 yB 2 (some .char) site (P t V i u fm) (E u) [] 0 0 := by
  refine Law.of_walk (plainFor_of_name (by decide +kernel)) (by decide +kernel) (by decide +kernel) (by decide) (fun _ _ h => by rw [h.1]; rfl) (fun _ U U' hal hh h => ⟨h.1, h.2.1.mv hal hh, h.2.2.1, h.2.2.2.1.there hal hh, h.2.2.2.2⟩) (fun r U U' V V' h1 hal h2 h => XT.PureE.mv r U U' V V' h1 hal h2 h) ?_
  intro p e s m args below meth c s₁ X0 hexec hbytes hml hret hlk hnm hown hh0 W hP
  obtain ⟨rfl, hV, hu, s1, rf⟩ := hP
  have v31 := hV.2.2.2
  have hi : i < V.slots.size := (Array.getElem?_eq_some_iff.mp hu).1
  have c1 : Steps p.tables e below (s₁.setTop (entryFrame m #[.ref t, .int (Int32.ofNat i)] 2)) (s₁.setTop (mkF m 0 #[.val (.ref t), .val (.int (Int32.ofNat i))] [])) := entry rfl
  have c2 : Steps p.tables e below (s₁.setTop (entryFrame m #[.ref t, .int (Int32.ofNat i)] 2)) (s₁.setTop (mkF m 3 #[.val (.ref t), .val (.int (Int32.ofNat i))] [.int (Int32.ofNat V.slots.size), .int (Int32.ofNat i)])) := c1.trans (by
    refine XS.iloadN X0.here hexec rfl (hb hbytes d0) rfl ?_
    refine XS.aloadN X0.here hexec rfl (hb hbytes d1) rfl rfl ?_
    refine X0.alen hexec (hV.mv X0.warmed.alike hh0) rfl rfl (hb hbytes d2) ?_
    exact Steps.refl _)
  obtain ⟨v3, T3, X3, E3, g3⟩ := X0.callS hexec (JO.Str_checkIndex.law l (Int32.ofNat i) (Int32.ofNat V.slots.size) fm) hown (wks W (staticW "java/lang/StringLatin1" 9 JO.Str_checkIndex.yN)) (wk W JO.Str_checkIndex.tab) (W := 0) (Nat.le_of_ble_eq_true rfl) (Nat.le_of_ble_eq_true rfl) (Nat.le_refl _) (Nat.le_refl _) (g := (mkF m 3 #[.val (.ref t), .val (.int (Int32.ofNat i))] [.int (Int32.ofNat V.slots.size), .int (Int32.ofNat i)])) rfl (by rw [hml]; rfl) c2 (argsL := [.int (Int32.ofNat i), .int (Int32.ofNat V.slots.size)]) (rest := []) rfl rfl (by show 2 * 0 + 0 ≤ _; decide) (hb hbytes d3) (⟨rfl, rf, s1.there X0.warmed.alike hh0, Int32.ofNat_not_neg (by omega), lt32 v31 hi⟩)
  obtain ⟨rfl, q3⟩ := E3
  have hh3 := q3.trans hh0
  have c4 : Steps p.tables e below (s₁.setTop (entryFrame m #[.ref t, .int (Int32.ofNat i)] 2)) (T3.setTop (mkF m 14 #[.val (.ref t), .val (.int (Int32.ofNat i))] [.int (chr8 u)])) := Steps.trans g3 (by
    refine XS.aloadN X3.here hexec rfl (hb hbytes d6) rfl rfl ?_
    refine XS.iloadN X3.here hexec rfl (hb hbytes d7) rfl ?_
    refine X3.aget hexec (hV.mv X3.warmed.alike hh3) rfl hu rfl rfl (hb hbytes d8) ?_
    refine sipushV X3.here hexec rfl 255 (hb hbytes d9) (by decide) ?_
    refine XS.iand X3.here hexec rfl (hb hbytes d12) rfl ?_
    refine i2c X3.here hexec rfl (hb hbytes d13) rfl ?_
    exact Steps.refl _)
  exact ⟨T3, some (.int (chr8 u)), _, _, _, X3, rfl, rfl, rfl, (fun h => by cases h), ⟨rfl, hh3⟩, fun fs hl => c4.trans (X3.ireturnOut hexec hret (narrow_c _) (Or.inr (Or.inr (Or.inr (Or.inl rfl)))) (hb hbytes d14) hl)⟩
end LChA
end StrChars
namespace StrChars.Road
open Jvm Sem ClassFile Op Lib Jvm.Stand Jvm.Free Jvm.Free.XT
open Jvm.Lib.Cold (StaticIs)
theorem consq {a : Array Value} {s : State} {c : Jvm.Cond} {L : List Jvm.Cond} (h0 : c.before a s = true) (h : ∀ w ∈ L, w.before a s = true) : ∀ w ∈ c :: L, w.before a s = true := fun w hw => (List.mem_cons.mp hw).elim (fun e => e ▸ h0) (h w)
/-- the words of String.length(), either coding -/
abbrev wordsLen : List Jvm.Cond := [.code Len.yN Len.yB 1 (some .int), .initialized ST, .fieldLink ST 9 ST "value" "[B", .fieldLink ST 38 ST "COMPACT_STRINGS" "Z", .fieldLink ST 15 ST "coder" "B", .code Cdr.yN Cdr.yB 1 (some .byte), .methodLink ST 335 Cdr.yN, .declares Cdr.yN, .selects ST Cdr.yN Cdr.yN, .instanceMethod Cdr.yN]
theorem tabLen_of {a : Array Value} {s : State} (h : ∀ w ∈ wordsLen, w.before a s = true) : Len.tab.before a s = true := by
  have hc : Cdr.tab.before a s = true := unparts (wk h (.code Cdr.yN Cdr.yB 1 (some .byte))) (wks h (.initialized Cdr.yN.cls :: Cdr.site))
  have q := consq hc h
  exact unparts (wk q (.code Len.yN Len.yB 1 (some .int))) (wks q (.initialized Len.yN.cls :: Len.site))
theorem movedLen {Z s : State} {a0 args : Array Value} (hZ : Z.Warmed39 s.vm) (hw : ∀ d ∈ wordsLen, d.before a0 Z = true) : ∀ d ∈ wordsLen, d.before args s = true := fun d hd => by
  have q := hw d hd
  have t : ∀ d ∈ wordsLen, d = .arrayClass .byte ∨ (d.onTables && d.keepsFace) = true := by decide +kernel
  rcases t d hd with rfl | t
  · exact RoadKit.mvA hZ q
  · exact RoadKit.mv hZ q t
/-- the bytes of the chars cs, low before high -/
def wideBytes : List Int32 → List Value
  | [] => []
  | c :: cs => .int (lo8 c) :: .int (hi8 c) :: wideBytes cs
theorem wide_lo (d : Value) : ∀ (cs : List Int32) (j : Nat), j < cs.length → (wideBytes cs).getD (2 * j) d = .int (lo8 (cs.getD j 0))
  | [], j, h => absurd h (Nat.not_lt_zero j)
  | c :: cs, 0, _ => rfl
  | c :: cs, j + 1, h => by
    have q := wide_lo d cs j (by simpa using h)
    rw [show 2 * (j + 1) = 2 * j + 1 + 1 from by omega]
    simpa [wideBytes] using q
theorem wide_hi (d : Value) : ∀ (cs : List Int32) (j : Nat), j < cs.length → (wideBytes cs).getD (2 * j + 1) d = .int (hi8 (cs.getD j 0))
  | [], j, h => absurd h (Nat.not_lt_zero j)
  | c :: cs, 0, _ => rfl
  | c :: cs, j + 1, h => by
    have q := wide_hi d cs j (by simpa using h)
    rw [show 2 * (j + 1) + 1 = 2 * j + 1 + 1 + 1 from by omega]
    simpa [wideBytes] using q
theorem low_at (d : Value) (cs : List Int32) (j : Nat) (h : j < cs.length) : (cs.map fun c => Value.int (lo8 c)).getD j d = .int (lo8 (cs.getD j 0)) := by
  simp [List.getD_eq_getElem?_getD, h]
/-- an array of N2 bytes vs codes the chars cs by the coder cd -/
def CodA (cs : List Int32) (cd N2 : Int32) (vs : List Value) : Prop := (cd = 0 ∧ N2 = Int32.ofNat cs.length ∧ vs = (cs.map fun c => Value.int (lo8 c)) ∧ ∀ c ∈ cs, ¬ 255 < c) ∨ (cd = 1 ∧ N2 = Int32.ofNat (2 * cs.length) ∧ vs = wideBytes cs ∧ ∃ c ∈ cs, 255 < c)
theorem CodA.cod {cs : List Int32} {cd N2 : Int32} {vs : List Value} {V : Cell} (h : CodA cs cd N2 vs) (hn : 2 * cs.length < 2 ^ 31) (hs : V.slots.size = N2.toNatClampNeg) (hv : RoadKit.Has V vs (.int 0)) : Cod cd cs.length (fun j => cs.getD j 0) V := by
  rcases h with ⟨rfl, rfl, rfl, h⟩ | ⟨rfl, rfl, rfl, c, hc, hw⟩
  · rw [n32 (by omega)] at hs
    exact Or.inl ⟨rfl, hs, fun j hj => ⟨by rw [hv j (by omega), low_at _ _ _ hj], by
      have e : cs.getD j 0 = cs[j] := by simp [List.getD_eq_getElem?_getD, hj]
      show ¬ 255 < cs.getD j 0
      rw [e]; exact h _ (List.getElem_mem _)⟩⟩
  · rw [n32 (by omega)] at hs
    obtain ⟨j, hj, rfl⟩ := List.getElem_of_mem hc
    exact Or.inr ⟨rfl, hs, fun j hj => ⟨by rw [hv _ (by omega), wide_lo _ _ _ hj], by rw [hv _ (by omega), wide_hi _ _ _ hj]⟩, j, hj, by
      have e : cs.getD j 0 = cs[j] := by simp [List.getD_eq_getElem?_getD, hj]
      show 255 < cs.getD j 0
      rw [e]; exact hw⟩
/-- an object of exactly java/lang/String, its two fields found: as the laws ask it -/
theorem strObj {Z U : State} {a0 : Array Value} {kI : Nat} (wi : (Jvm.Cond.instantiable ST kI).before a0 Z = true) (al : Z.vm.Alike U.vm) {x : Addr} {v0 c0 : Value} (E : RoadKit.Exa Z U.heap x ST) (V : RoadKit.Fld Z U.heap x ST "value" "[B" v0) (C : RoadKit.Fld Z U.heap x ST "coder" "B" c0) :
    ∃ (D : Cell) (fV fC : Field), Blank ST x D U ∧ Found ST "value" "[B" fV U ∧ Found ST "coder" "B" fC U ∧ D.slots[fV.slot]? = some v0 ∧ D.slots[fC.slot]? = some c0 ∧ RoadKit.slotOf Z ST "value" "[B" = fV.slot ∧ RoadKit.slotOf Z ST "coder" "B" = fC.slot := by
  obtain ⟨D, cfV, kV, iV, fV, hD, gV, stV, knV, obV, asV, slV⟩ := V
  obtain ⟨D', cfC, kC, iC, fC, hD', gC, stC, -, -, asC, slC⟩ := C
  cases hD.symm.trans hD'
  obtain ⟨D2, kD, e1, e2, e3, e4, e5⟩ := E
  cases hD.symm.trans e1
  obtain ⟨c2, k2, i1, i2, i3, -⟩ := Cond.instantiable_spec wi
  cases e2.symm.trans i1
  cases e3.symm.trans i2
  obtain ⟨kU, u1, u2⟩ := al.2.2 _ _ e3
  exact ⟨D, fV, fC, ⟨hD, ⟨knV, fun q hq => by rw [hq] at obV; cases obV⟩, by rw [al.findClass]; exact e2, kU, u1, by rw [u2]; exact i3, by rw [u2]; exact e5 i3⟩, ⟨SBG.found_only al ⟨cfV, kV, iV, gV⟩, stV⟩, ⟨SBG.found_only al ⟨cfC, kC, iC, gC⟩, stC⟩, slV, slC, by simp [RoadKit.slotOf, gV], by simp [RoadKit.slotOf, gC]⟩
theorem sta_is {Z U : State} (al : Z.vm.Alike U.vm) {C n d : String} {v : Value} (S : RoadKit.Sta Z U.heap C n d v) : StaticIs U C n d v := by
  obtain ⟨cfS, iS, kS, fS, st, cS, t1, t2, t3, t4, t5, t6, t7⟩ := S
  exact StaticIs.there (s := { Z with heap := U.heap }) ⟨cfS, iS, kS, fS, st, cS, t1, t2, t3, t4, t5, (fun q => by rw [q] at t6; cases t6), t7⟩ al rfl
/-- **length() OF SUCH A STRING** -/
theorem lenW {p : Program} {l : Launch} {e : Env} {R : Room} {s : State} {args : Array Value} {below : List Frame} {len W : Nat} {Z : State} {a0 : Array Value} {h : Heap} (hZ : Z.Warmed39 s.vm) (hw : ∀ d ∈ wordsLen, d.before a0 Z = true) {kI : Nat} (wi : (Jvm.Cond.instantiable ST kI).before a0 Z = true)
    {x t : Addr} {kb : ClassId} {cs : List Int32} {cd N2 z : Int32} {vs : List Value} (E : RoadKit.Exa Z h x ST) (V : RoadKit.Fld Z h x ST "value" "[B" (.ref t)) (C : RoadKit.Fld Z h x ST "coder" "B" (.int cd)) (K : RoadKit.Arv Z h t kb .byte N2 vs (.int 0)) (hc : CodA cs cd N2 vs) (hb : ∀ c ∈ cs, ¬ c < 0 ∧ ¬ (65535 : Int32) < c)
    (S : RoadKit.Sta Z h ST "COMPACT_STRINGS" "Z" (.int z)) (hz : ¬ z = 0) (l2 : cs.length ≤ 4000) (hfr : 2 ≤ R.frames) (hlo : W + 25 ≤ R.locals) :
    Back l R p e below s args (⟨"java/lang/String", "length", "()I"⟩ : MethodName) len W (fun P a => a = #[.ref x] ∧ P.U.heap = h ∧ P.cells + 0 ≤ R.cells ∧ P.slots + 0 ≤ R.slots)
      (fun P _ v B => ∃ L, (v = some (.int (Int32.ofNat cs.length)) ∧ L = [] ∧ B.U.heap = h) ∧ B.locs = P.locs ++ L ∧ B.cells = P.cells + 0 ∧ B.slots = P.slots + 0) := by
  obtain ⟨A, K1, K2, K3, K4, K5, K6⟩ := K
  have hcod := hc.cod (by omega) K3 K5
  intro m meth c P g ig mk a X hg hsize hdg hW hn hp'
  obtain ⟨rfl, rfl, r1, r2⟩ := hp'
  have al : Z.vm.Alike P.U.vm := hZ.alike.trans X.warmed.alike
  obtain ⟨D, fV, fC, hB, F1, F2, g1, g2, -, -⟩ := strObj wi al E V C
  have hx : Txt x t A cd cs.length (fun j => cs.getD j 0) P.U := ⟨⟨_, hB.2.2.1, D, hB.1, rfl, by cases q : D.vm <;> first | rfl | exact absurd q (hB.2.1.2 _)⟩, Has.of hB F1 g1, Has.of hB F2 g2, ⟨K1.1, State.isArrayOf_alike al K1.2.1, K1.2.2, by rcases hcod with ⟨-, q, -⟩ | ⟨-, q, -⟩ <;> omega⟩, hcod, fun j hj => by
    have e : cs.getD j 0 = cs[j] := by simp [List.getD_eq_getElem?_getD, hj]
    show ¬ cs.getD j 0 < 0 ∧ ¬ 65535 < cs.getD j 0
    rw [e]; exact hb _ (List.getElem_mem _)⟩
  obtain ⟨v, B, X', ⟨⟨hv, hh⟩, hl, hk, hs⟩, st⟩ := Len.pays x t A cd cs.length (fun j => cs.getD j 0) z (tabLen_of (movedLen hZ hw)) hfr hlo m meth c P g ig mk _ X hg hsize hdg hW hn ⟨r1, r2, rfl, hx, sta_is al S, hz⟩
  exact ⟨v, B, X', ⟨[], ⟨hv, rfl, hh⟩, hl, hk, hs⟩, st⟩
end StrChars.Road
namespace StrChars.Road
open Jvm Sem ClassFile Op Lib Jvm.Stand Jvm.Free Jvm.Free.XT
open Jvm.Lib.Cold (StaticIs)
/-- the road's facts of a String, as the laws ask it -/
theorem txt_of {Z U : State} {a0 : Array Value} {kI : Nat} (wi : (Jvm.Cond.instantiable ST kI).before a0 Z = true) (al : Z.vm.Alike U.vm) {x t : Addr} {kb : ClassId} {cs : List Int32} {cd N2 : Int32} {vs : List Value} (E : RoadKit.Exa Z U.heap x ST) (V : RoadKit.Fld Z U.heap x ST "value" "[B" (.ref t)) (C : RoadKit.Fld Z U.heap x ST "coder" "B" (.int cd)) (K : RoadKit.Arv Z U.heap t kb .byte N2 vs (.int 0)) (hc : CodA cs cd N2 vs) (hb : ∀ c ∈ cs, ¬ c < 0 ∧ ¬ (65535 : Int32) < c) (l2 : cs.length ≤ 4000) :
    ∃ A, Txt x t A cd cs.length (fun j => cs.getD j 0) U := by
  obtain ⟨A, K1, K2, K3, K4, K5, K6⟩ := K
  have hcod := hc.cod (by omega) K3 K5
  obtain ⟨D, fV, fC, hB, F1, F2, g1, g2, -, -⟩ := strObj wi al E V C
  exact ⟨A, ⟨_, hB.2.2.1, D, hB.1, rfl, by cases q : D.vm <;> first | rfl | exact absurd q (hB.2.1.2 _)⟩, Has.of hB F1 g1, Has.of hB F2 g2, ⟨K1.1, State.isArrayOf_alike al K1.2.1, K1.2.2, by rcases hcod with ⟨-, q, -⟩ | ⟨-, q, -⟩ <;> omega⟩, hcod, fun j hj => by
    have e : cs.getD j 0 = cs[j] := by simp [List.getD_eq_getElem?_getD, hj]
    show ¬ cs.getD j 0 < 0 ∧ ¬ 65535 < cs.getD j 0
    rw [e]; exact hb _ (List.getElem_mem _)⟩
end StrChars.Road
namespace StrChars
open Jvm Sem ClassFile Op Lib Jvm.Stand Jvm.Free.XT Jvm.Free.ALB Jvm.Free.JM Jvm.Free
open Jvm.Lib.Cold (StaticIs)
namespace ChN
def yN : MethodName := ⟨"java/lang/String", "charAt", "(I)C"⟩
abbrev yB : ByteArray := jdk_42_method_56_code
theorem d0 : decode yB 0 = .ok (.aload_n 0, 1) := by decide +kernel
theorem d1 : decode yB 1 = .ok (.invokevirtual 492, 3) := by decide +kernel
theorem d4 : decode yB 4 = .ok (.ifCond (.eq) 12, 3) := by decide +kernel
theorem d7 : decode yB 7 = .ok (.aload_n 0, 1) := by decide +kernel
theorem d8 : decode yB 8 = .ok (.getfield 9, 3) := by decide +kernel
theorem d11 : decode yB 11 = .ok (.iload_n 1, 1) := by decide +kernel
theorem d12 : decode yB 12 = .ok (.invokestatic 495, 3) := by decide +kernel
theorem d15 : decode yB 15 = .ok (.ireturn, 1) := by decide +kernel
def site : List Cond := [.fieldLink "java/lang/String" 9 "java/lang/String" "value" "[B", IsL.tab, LChA.tab] ++ virtW "java/lang/String" 492 "java/lang/String" IsL.yN IsL.yN ++ staticW "java/lang/String" 495 LChA.yN
def tab : Cond := tabOf yN yB 2 (some .char) site
def P (x t : Addr) (V : Cell) (n : Nat) (f : Nat → Int32) (z : Int32) (fm : Value) (i : Nat) (args : Array Value) (s : State) : Prop := args = #[.ref x, .int (Int32.ofNat i)] ∧ Txt x t V 0 n f s ∧ i < n ∧ StaticIs s "java/lang/String" "COMPACT_STRINGS" "Z" (.int z) ∧ ¬ z = 0 ∧ StaticIs s "jdk/internal/util/Preconditions" "SIOOBE_FORMATTER" "Ljava/util/function/BiFunction;" fm ∧ fm.isRef = true
def E (f : Nat → Int32) (i : Nat) (r : Option Value) (s u : State) : Prop := XT.PureE (some (.int (f i))) r s u
/-- charAt(i) of a Latin-1 String of n chars, i < n: f i -/
theorem law (l : Launch) (x t : Addr) (V : Cell) (n : Nat) (f : Nat → Int32) (z : Int32) (fm : Value) (i : Nat) : Law l yN 2 1 3 40 yB 2 (some .char) site (P x t V n f z fm i) (E f i) [] 0 0 := by
  refine Law.of_walk (plainFor_of_name (by decide +kernel)) (by decide +kernel) (by decide +kernel) (by decide) (fun _ _ h => by rw [h.1]; rfl) (fun _ U U' hal hh h => ⟨h.1, h.2.1.mv hal hh, h.2.2.1, h.2.2.2.1.there hal hh, h.2.2.2.2.1, h.2.2.2.2.2.1.there hal hh, h.2.2.2.2.2.2⟩) (fun r U U' V V' h1 hal h2 h => XT.PureE.mv r U U' V V' h1 hal h2 h) ?_
  intro p e s m args below meth c s₁ X0 hexec hbytes hml hret hlk hnm hown hh0 W hP
  obtain ⟨rfl, hx, hi, s1, hz, s3, rf⟩ := hP
  have v31 := hx.2.2.2.1.2.2.2
  have hr := hx.2.2.2.2.2 i hi
  have hx0 := hx.mv X0.warmed.alike hh0
  have c1 : Steps p.tables e below (s₁.setTop (entryFrame m #[.ref x, .int (Int32.ofNat i)] 2)) (s₁.setTop (mkF m 1 #[.val (.ref x), .val (.int (Int32.ofNat i))] [.ref x])) := Steps.trans (entry rfl) (by
    show Steps p.tables e below (s₁.setTop (mkF m 0 #[.val (.ref x), .val (.int (Int32.ofNat i))] [])) _
    refine XS.aloadN X0.here hexec rfl (hb hbytes d0) rfl rfl ?_
    exact Steps.refl _)
  obtain ⟨v2, T2, X2, E2, g2⟩ := X0.callV hexec (IsL.law l x 0 z) hown (wks W (virtW "java/lang/String" 492 "java/lang/String" IsL.yN IsL.yN)) rfl (by decide) (wk W IsL.tab) (W := 0) (Nat.le_of_ble_eq_true rfl) (Nat.le_of_ble_eq_true rfl) (Nat.le_refl _) (Nat.le_refl _) (hx0.1.fc X0.warmed.alike) hx0.1.is (g := (mkF m 1 #[.val (.ref x), .val (.int (Int32.ofNat i))] [.ref x])) rfl (by rw [hml]; rfl) c1 (argsL := []) (rest := []) rfl rfl (by show 2 * 0 + 0 ≤ _; decide) (hb hbytes d1) (⟨rfl, hx0.2.2.1, hx.2.2.2.2.1.cd, s1.there X0.warmed.alike hh0, hz⟩)
  obtain ⟨rfl, q2⟩ := E2
  have hh2 := q2.trans hh0
  have hx2 := hx.mv X2.warmed.alike hh2
  obtain ⟨-, k1, k2⟩ | ⟨k0, -⟩ := hx.2.2.2.2.1
  · have c3 : Steps p.tables e below (s₁.setTop (entryFrame m #[.ref x, .int (Int32.ofNat i)] 2)) (T2.setTop (mkF m 8 #[.val (.ref x), .val (.int (Int32.ofNat i))] [.ref x])) := Steps.trans g2 (by
      refine XS.ifNo X2.here hexec rfl (hb hbytes d4) rfl (i0_eq_f (by decide)) ?_
      refine XS.aloadN X2.here hexec rfl (hb hbytes d7) rfl rfl ?_
      exact Steps.refl _)
    obtain ⟨T4, X4, q4, st4⟩ := X2.hget hexec hown (wk W (.fieldLink "java/lang/String" 9 "java/lang/String" "value" "[B")) hx2.2.1 (g := (mkF m 8 #[.val (.ref x), .val (.int (Int32.ofNat i))] [.ref x])) rfl (rest := []) rfl (hb hbytes d8)
    have hh4 := q4.trans hh2
    have c5 : Steps p.tables e below (s₁.setTop (entryFrame m #[.ref x, .int (Int32.ofNat i)] 2)) (T4.setTop (mkF m 12 #[.val (.ref x), .val (.int (Int32.ofNat i))] [.int (Int32.ofNat i), .ref t])) := (c3.trans (st4 _ (Steps.refl _))).trans (by
      refine XS.iloadN X4.here hexec rfl (hb hbytes d11) rfl ?_
      exact Steps.refl _)
    obtain ⟨v6, T6, X6, E6, g6⟩ := X4.callS hexec (LChA.law l t V i (lo8 (f i)) fm) hown (wks W (staticW "java/lang/String" 495 LChA.yN)) (wk W LChA.tab) (W := 0) (Nat.le_of_ble_eq_true rfl) (Nat.le_of_ble_eq_true rfl) (Nat.le_refl _) (Nat.le_refl _) (g := (mkF m 12 #[.val (.ref x), .val (.int (Int32.ofNat i))] [.int (Int32.ofNat i), .ref t])) rfl (by rw [hml]; rfl) c5 (argsL := [.ref t, .int (Int32.ofNat i)]) (rest := []) rfl rfl (by show 2 * 0 + 0 ≤ _; decide) (hb hbytes d12) (⟨rfl, hx.2.2.2.1.mv X4.warmed.alike hh4, (k2 i hi).1, s3.there X4.warmed.alike hh4, rf⟩)
    obtain ⟨rfl, q6⟩ := E6
    rw [chr8_lo8 hr.1 (k2 i hi).2] at g6
    exact ⟨T6, some (.int (f i)), _, _, _, X6, rfl, rfl, rfl, (fun h => by cases h), ⟨rfl, q6.trans hh4⟩, fun fs hl => Steps.trans g6 (X6.ireturnOut hexec hret (narrow_ch hr.1 hr.2) (Or.inr (Or.inr (Or.inr (Or.inl rfl)))) (hb hbytes d15) hl)⟩
  · exact absurd k0 (by decide)
theorem pays {l : Launch} {R : Room} {p : Program} {e : Env} {below : List Frame} {s : State} {sargs : Array Value} {len W : Nat} (x t : Addr) (V : Cell) (n : Nat) (f : Nat → Int32) (z : Int32) (fm : Value) (i : Nat) (htab : tab.before sargs s = true) (hfr : 4 ≤ R.frames) (hlo : W + 53 ≤ R.locals) :
    Back l R p e below s sargs yN len W (fun A₁ a₁ => A₁.cells + 0 ≤ R.cells ∧ A₁.slots + 0 ≤ R.slots ∧ P x t V n f z fm i a₁ A₁.U) (fun A₁ _ v₁ B₁ => E f i v₁ A₁.U B₁.U ∧ B₁.locs = A₁.locs ++ [] ∧ B₁.cells = A₁.cells + 0 ∧ B₁.slots = A₁.slots + 0) :=
  (law l x t V n f z fm i).pays htab hfr (by omega)
end ChN
end StrChars
namespace StrChars.Road
open Jvm Sem ClassFile Op Lib Jvm.Stand Jvm.Free Jvm.Free.XT
open Jvm.Lib.Cold (StaticIs)
/-- the words of String.charAt(int), the Latin-1 road alone -/
abbrev wordsChN : List Jvm.Cond := [.code ChN.yN ChN.yB 2 (some .char), .initialized ST, .fieldLink ST 9 ST "value" "[B", .fieldLink ST 38 ST "COMPACT_STRINGS" "Z", .fieldLink ST 15 ST "coder" "B", .code IsL.yN IsL.yB 1 (some .boolean), .methodLink ST 492 IsL.yN, .declares IsL.yN, .selects ST IsL.yN IsL.yN, .instanceMethod IsL.yN,
  .methodLink ST 495 LChA.yN, .static LChA.yN, .code LChA.yN LChA.yB 2 (some .char), .initialized "java/lang/StringLatin1", .methodLink "java/lang/StringLatin1" 9 JO.Str_checkIndex.yN, .static JO.Str_checkIndex.yN, .code JO.Str_checkIndex.yN JO.Str_checkIndex.yB 2 none,
  .fieldLink ST 1053 "jdk/internal/util/Preconditions" "SIOOBE_FORMATTER" "Ljava/util/function/BiFunction;", .methodLink ST 1059 JC.PreCheck.yN, .static JC.PreCheck.yN, .code JC.PreCheck.yN JC.PreCheck.yB 3 (some .int), .initialized "jdk/internal/util/Preconditions"]
theorem tabChN_of {a : Array Value} {s : State} (h : ∀ w ∈ wordsChN, w.before a s = true) : ChN.tab.before a s = true := by
  have hp : JC.PreCheck.tab.before a s = true := unparts (wk h (.code JC.PreCheck.yN JC.PreCheck.yB 3 (some .int))) (wks h (.initialized JC.PreCheck.yN.cls :: JC.PreCheck.site))
  have qk := consq hp h
  have hk : JO.Str_checkIndex.tab.before a s = true := unparts (wk qk (.code JO.Str_checkIndex.yN JO.Str_checkIndex.yB 2 none)) (wks qk (.initialized JO.Str_checkIndex.yN.cls :: JO.Str_checkIndex.site))
  have ql := consq hk h
  have hl : LChA.tab.before a s = true := unparts (wk ql (.code LChA.yN LChA.yB 2 (some .char))) (wks ql (.initialized LChA.yN.cls :: LChA.site))
  have hi : IsL.tab.before a s = true := unparts (wk h (.code IsL.yN IsL.yB 1 (some .boolean))) (wks h (.initialized IsL.yN.cls :: IsL.site))
  have q := consq hi (consq hl h)
  exact unparts (wk q (.code ChN.yN ChN.yB 2 (some .char))) (wks q (.initialized ChN.yN.cls :: ChN.site))
theorem movedChN {Z s : State} {a0 args : Array Value} (hZ : Z.Warmed39 s.vm) (hw : ∀ d ∈ wordsChN, d.before a0 Z = true) : ∀ d ∈ wordsChN, d.before args s = true := fun d hd => by
  have t : ∀ d ∈ wordsChN, (d.onTables && d.keepsFace) = true := by decide +kernel
  exact RoadKit.mv hZ (hw d hd) (t d hd)
/-- **charAt(i) OF A LATIN-1 STRING**, i < n: the char -/
theorem chN {p : Program} {l : Launch} {e : Env} {R : Room} {s : State} {args : Array Value} {below : List Frame} {len W : Nat} {Z : State} {a0 : Array Value} {h : Heap} (hZ : Z.Warmed39 s.vm) (hw : ∀ d ∈ wordsChN, d.before a0 Z = true) {kI : Nat} (wi : (Jvm.Cond.instantiable ST kI).before a0 Z = true)
    {x t : Addr} {kb : ClassId} {cs : List Int32} {N2 z : Int32} {vs : List Value} {fm : Value} {i : Nat} {j : Int32} (E : RoadKit.Exa Z h x ST) (V : RoadKit.Fld Z h x ST "value" "[B" (.ref t)) (C : RoadKit.Fld Z h x ST "coder" "B" (.int 0)) (K : RoadKit.Arv Z h t kb .byte N2 vs (.int 0)) (hc : CodA cs 0 N2 vs) (hb : ∀ c ∈ cs, ¬ c < 0 ∧ ¬ (65535 : Int32) < c)
    (S : RoadKit.Sta Z h ST "COMPACT_STRINGS" "Z" (.int z)) (hz : ¬ z = 0) (F : RoadKit.Sta Z h "jdk/internal/util/Preconditions" "SIOOBE_FORMATTER" "Ljava/util/function/BiFunction;" fm) (rf : fm.isRef = true) (l2 : cs.length ≤ 4000) (hi : i < cs.length) (hj : j = Int32.ofNat i) (hfr : 4 ≤ R.frames) (hlo : W + 53 ≤ R.locals) :
    Back l R p e below s args (⟨"java/lang/String", "charAt", "(I)C"⟩ : MethodName) len W (fun P a => a = #[.ref x, .int j] ∧ P.U.heap = h ∧ P.cells + 0 ≤ R.cells ∧ P.slots + 0 ≤ R.slots)
      (fun P _ v B => ∃ L, (v = some (.int (cs.getD i 0)) ∧ L = [] ∧ B.U.heap = h) ∧ B.locs = P.locs ++ L ∧ B.cells = P.cells + 0 ∧ B.slots = P.slots + 0) := by
  subst hj
  intro m meth c P g ig mk a X hg hsize hdg hW hn hp'
  obtain ⟨rfl, rfl, r1, r2⟩ := hp'
  have al : Z.vm.Alike P.U.vm := hZ.alike.trans X.warmed.alike
  obtain ⟨A, hx⟩ := txt_of wi al E V C K hc hb l2
  obtain ⟨v, B, X', ⟨⟨hv, hh⟩, hl, hk, hs⟩, st⟩ := ChN.pays x t A cs.length (fun j => cs.getD j 0) z fm i (tabChN_of (movedChN hZ hw)) hfr hlo m meth c P g ig mk _ X hg hsize hdg hW hn ⟨r1, r2, rfl, hx, hi, sta_is al S, hz, sta_is al F, rf⟩
  exact ⟨v, B, X', ⟨[], ⟨hv, rfl, hh⟩, hl, hk, hs⟩, st⟩
/-- what backV says of its String, as the contracts of this text ask it: cs's low bytes, coder 0 -/
theorem codOf {cs : List Int32} {n : Nat} (hn : cs.length = n) (hb : ∀ c ∈ cs, ¬ 255 < c) : CodA cs 0 (Int32.ofNat n) ((cs.map lo8).map Value.int) := Or.inl ⟨rfl, by rw [hn], by simp [List.map_map, Function.comp_def], hb⟩
end StrChars.Road
end Jvm.Pilot.@@N@@
namespace Jvm.Pilot.@@N@@
open Jvm Jvm.ClassFile Sem Op Lib Jvm.Free Jvm.Stand Jvm.LawKit Jvm.RoadKit Bundle Jvm.Pilot.@@N@@.Jvm.D
theorem own_w {Z : State} {a0 : Array Value} (hw : ∀ d ∈ tables_1, d.before a0 Z = true) (i : Nat) {d : Jvm.Cond} (h : tables_1[i]? = some d) : d.before a0 Z = true := hw d (List.mem_of_getElem? h)
/-- the run goes on from here to an end at which K holds -/
def own_Go (p : Program) (e : Env) (below : List Frame) (T : State) (g : JFrame) (K : State → Outcome → Prop) : Prop := ∃ s₂ o, Steps p.tables e below (T.setTop g) s₂ ∧ K s₂ o
section OwnGo
variable {p : Program} {l : Launch} {e : Env} {R : Room} {s : State} {m : MethodId} {args : Array Value} {below : List Frame} {meth : Method} {c : Code} {T T' s₂ : State} {o : Outcome} {locs : List Loc} {cells slots : Nat} {g g' : JFrame} {K : State → Outcome → Prop}
theorem own_loop {F : Int32 → JFrame} {I : Nat → Int32 → Prop} {k0 : Nat} {i0 : Int32} (h0 : I k0 i0) (step : ∀ k i, I k i → (∀ k' i', k' < k → I k' i' → own_Go p e below T (F i') K) → own_Go p e below T (F i) K) : own_Go p e below T (F i0) K := by
  induction k0 using Nat.strongRecOn generalizing i0 with
  | ind k ih => exact step k i0 h0 fun k' i' hk' h' => ih k' hk' h'
theorem own_hold (h : ∀ KK : State → Outcome → Prop, (∀ a b, K a b → KK a b) → own_Go p e below T g KK) : own_Go p e below T g K := h K fun _ _ q => q
theorem own_enter (q : g = g') (k : own_Go p e below T g' K) : ∃ s₂ o, Steps p.tables e below (T.setTop g) s₂ ∧ K s₂ o := by subst q; exact k
theorem own_st (h : ∀ t, Steps p.tables e below (T'.setTop g') t → Steps p.tables e below (T.setTop g) t) (k : own_Go p e below T' g' K) : own_Go p e below T g K := by
  obtain ⟨s2, o, h1, h2⟩ := k
  exact ⟨s2, o, h _ h1, h2⟩
theorem own_tr (h : Steps p.tables e below (T.setTop g) (T'.setTop g')) (k : own_Go p e below T' g' K) : own_Go p e below T g K := own_st (fun _ q => h.trans q) k
theorem own_fin (h : Steps p.tables e below (T.setTop g) s₂) (k : K s₂ o) : own_Go p e below T g K := ⟨s₂, o, h, k⟩
theorem own_cst {Z : State} {h hA : Heap} {n0 : Nat} {b : Addr} {kk : ClassId} {z : Int32} {vs : List Value} {dv : Value} {n i : Nat} {j w : Int32} (X : Stand p l e R s m args below meth c T locs cells slots) (hx : p.tables.exec = Jvm.exec) (hZ : Z.Warmed39 s.vm) (eT : T.heap = h) (V : Arv Z h b kk .char z vs dv) (hl : vs.length = n) (hi : i < n) (hj : j.toNatClampNeg = i) (hin : ¬ j < 0 ∧ j < z) (hv : nar .char w = w) (N : Fr n0 locs) (Kb : Keep hA h [b]) (G : n0 ≤ b) {pc : Nat} {Ls : Array Slot} {rest : List Value} (hd : decode c.code pc = .ok (.castore, 1))
    (k : ∀ (T' : State) (h' : Heap) (L' : List Loc) (vs' : List Value), Stand p l e R s m args below meth c T' L' cells slots → T'.heap = h' → vs' = vs.set i (.int w) → vs'.length = n → Arv Z h' b kk .char z vs' dv → Fr n0 L' → Keep hA h' [b] → own_Go p e below T' (mkF m (pc + 1) Ls rest) K) : own_Go p e below T (mkF m pc Ls (.int w :: .int j :: .ref b :: rest)) K := by
  obtain ⟨cl, Ar, q, Sz, Nn, Hh, Gg⟩ := id V
  obtain ⟨T', h', X', e', W', st'⟩ := stC X hx hZ eT Ar (j := j) (inb_of Sz hin) (g := mkF m pc Ls (.int w :: .int j :: .ref b :: rest)) rfl rfl hd
  have V' := Arv.set Ar q Sz Nn Hh Gg (fits_nar_char _) W' i hj (by rw [hl]; exact hi)
  rw [hv] at V'
  exact own_st st' (k T' h' _ _ X' e' rfl (by rw [List.length_set]; exact hl) V' (Fr.snoc X' N G) (Kb.wr W' (Or.inl (List.mem_of_getElem? (i := 0) rfl))))
theorem own_retI (X : Stand p l e R s m args below meth c T locs cells slots) (hx : p.tables.exec = Jvm.exec) {pc : Nat} {Ls : Array Slot} {z : Int32} {rest : List Value} (hret : meth.sig.returnType = some .int) (hd : decode c.code pc = .ok (.ireturn, 1)) {fs : List Frame}
    (hl : ∀ (f : JFrame) (acts : List Action), f.method = m → f.locked = none → f.entered = [] → (doReturn e (T.setTop f) acts (some (.int z))).1 = T.setFrames fs) : Steps p.tables e below (T.setTop (mkF m pc Ls (.int z :: rest))) (T.setFrames fs) := by
  have hm' : T.vm.method? m = some meth := X.method'
  have hn : narrow .int (.int z) = .int z := rfl
  show Steps p.tables e below (T.setTop { method := m, pc := pc, locals := Ls, stack := _ :: rest, locked := none }) _
  jvm_step X.here [X.here.top, hx, hd, hm', hret, hn]
  first | (intro acts; rw [hl _ acts rfl rfl rfl]) | rw [hl _ _ rfl rfl rfl]
  exact Steps.refl _
theorem own_retD (X : Stand p l e R s m args below meth c T locs cells slots) (hx : p.tables.exec = Jvm.exec) {pc : Nat} {Ls : Array Slot} {z : UInt64} {rest : List Value} (hret : meth.sig.returnType = some .double) (hd : decode c.code pc = .ok (.dreturn, 1)) {fs : List Frame}
    (hl : ∀ (f : JFrame) (acts : List Action), f.method = m → f.locked = none → f.entered = [] → (doReturn e (T.setTop f) acts (some (.double z))).1 = T.setFrames fs) : Steps p.tables e below (T.setTop (mkF m pc Ls (.double z :: rest))) (T.setFrames fs) := by
  have hm' : T.vm.method? m = some meth := X.method'
  have hn : narrow .double (.double z) = .double z := rfl
  show Steps p.tables e below (T.setTop { method := m, pc := pc, locals := Ls, stack := _ :: rest, locked := none }) _
  jvm_step X.here [X.here.top, hx, hd, hm', hret, hn]
  first | (intro acts; rw [hl _ acts rfl rfl rfl]) | rw [hl _ _ rfl rfl rfl]
  exact Steps.refl _
theorem own_retL (X : Stand p l e R s m args below meth c T locs cells slots) (hx : p.tables.exec = Jvm.exec) {pc : Nat} {Ls : Array Slot} {z : Int64} {rest : List Value} (hret : meth.sig.returnType = some .long) (hd : decode c.code pc = .ok (.lreturn, 1)) {fs : List Frame}
    (hl : ∀ (f : JFrame) (acts : List Action), f.method = m → f.locked = none → f.entered = [] → (doReturn e (T.setTop f) acts (some (.long z))).1 = T.setFrames fs) : Steps p.tables e below (T.setTop (mkF m pc Ls (.long z :: rest))) (T.setFrames fs) := by
  have hm' : T.vm.method? m = some meth := X.method'
  have hn : narrow .long (.long z) = .long z := rfl
  show Steps p.tables e below (T.setTop { method := m, pc := pc, locals := Ls, stack := _ :: rest, locked := none }) _
  jvm_step X.here [X.here.top, hx, hd, hm', hret, hn]
  first | (intro acts; rw [hl _ acts rfl rfl rfl]) | rw [hl _ _ rfl rfl rfl]
  exact Steps.refl _
theorem own_retR (X : Stand p l e R s m args below meth c T locs cells slots) (hx : p.tables.exec = Jvm.exec) {pc : Nat} {Ls : Array Slot} {z : Value} {t : FieldType} {rest : List Value} (hz : z.isRef = true) (hret : meth.sig.returnType = some t) (ht : t.isReference = true) (hd : decode c.code pc = .ok (.areturn, 1)) {fs : List Frame}
    (hl : ∀ (f : JFrame) (acts : List Action), f.method = m → f.locked = none → f.entered = [] → (doReturn e (T.setTop f) acts (some z)).1 = T.setFrames fs) : Steps p.tables e below (T.setTop (mkF m pc Ls (z :: rest))) (T.setFrames fs) := by
  have hm' : T.vm.method? m = some meth := X.method'
  show Steps p.tables e below (T.setTop { method := m, pc := pc, locals := Ls, stack := _ :: rest, locked := none }) _
  jvm_step X.here [X.here.top, hx, hd, hm', hret, hz, ht]
  first | (intro acts; rw [hl _ acts rfl rfl rfl]) | rw [hl _ _ rfl rfl rfl]
  exact Steps.refl _
end OwnGo
theorem own_up (cs : List Int32) (h : ∀ c ∈ cs, ¬ c < 0 ∧ ¬ (255 : Int32) < c) : ∀ c ∈ cs, ¬ c < 0 ∧ ¬ (65535 : Int32) < c := fun c hc => ⟨(h c hc).1, fun q => (h c hc).2 (by rw [Int32.lt_iff_toInt_lt] at q ⊢; have e1 : (65535 : Int32).toInt = 65535 := rfl; have e2 : (255 : Int32).toInt = 255 := rfl; omega)⟩
theorem own_c255 (x : Int32) (h0 : 0 ≤ x.toInt) (h1 : x.toInt ≤ 255) : nar .char (x.toUInt32.toUInt16.toUInt32.toInt32) = x := by
  have e : x.toUInt32.toUInt16.toUInt32.toInt32 = x := by
    have h := c_i2c x
    apply Int32.toInt_inj.mp
    omega
  show (x.toUInt32.toUInt16.toUInt32.toInt32).toUInt32.toUInt16.toUInt32.toInt32 = x
  rw [e, e]
theorem own_in255 (x : Int32) (h0 : 0 ≤ x.toInt) (h1 : x.toInt ≤ 255) : ¬ x < 0 ∧ ¬ (255 : Int32) < x := by
  constructor
  · rw [Int32.lt_iff_toInt_lt]; have : (0 : Int32).toInt = 0 := rfl; omega
  · rw [Int32.lt_iff_toInt_lt]; have : (255 : Int32).toInt = 255 := rfl; omega
theorem own_m255 (x : Int32) : 0 ≤ (x &&& (255 : Int32)).toInt ∧ (x &&& (255 : Int32)).toInt ≤ 255 := by
  have h := c_and x 255 (by decide)
  exact h
theorem own_narc (x : Int32) : nar .char ((x &&& (255 : Int32)).toUInt32.toUInt16.toUInt32.toInt32) = x &&& (255 : Int32) := own_c255 _ (own_m255 x).1 (own_m255 x).2
theorem own_decl {Z : State} {a0 : Array Value} {y : MethodName} {bytes : ByteArray} {maxL : Nat} {ret : Option FieldType} (hi : (Cond.instanceMethod y).before a0 Z = true) (hc : (Cond.code y bytes maxL ret).before a0 Z = true) : (Cond.declares y).before a0 Z = true := by
  obtain ⟨mk, methM, hnamed, hmethM, hstM, habM⟩ := Cond.instanceMethod_spec hi
  obtain ⟨m2, cM, q1, -, -, -, -, -, -, hsig⟩ := Cond.code_spec hnamed hc
  cases hmethM.symm.trans q1
  simp [Cond.before, Cond.holds, Cond.value, hnamed, hmethM, hstM, hsig]
theorem own_same {Z : State} {a0 : Array Value} {C : String} {y y' : MethodName} (hd : (Cond.declares y).before a0 Z = true) (hs : (Cond.selects C y' y').before a0 Z = true) (hc : y'.cls = y.cls) (hx : y.cls ≠ "java/lang/invoke/MethodHandle" ∧ y.cls ≠ "java/lang/invoke/VarHandle") : (Cond.sameMethod y.cls y.cls y.name y.desc).before a0 Z = true := by
  obtain ⟨r0, r, hn, -⟩ := Cond.declares_spec hd
  obtain ⟨c2, r2, m2, q1, q2, q3, q4, kP, hkP, hkPi⟩ := Cond.selects_spec hs
  have hf := State.methodFound?_of_named hn hx
  have h1 := findClass_of_methodNamed hn
  have h2 := findClass_of_methodNamed q3
  rw [hc, h1] at h2
  have h3 : r0.cls = m2.cls := Option.some.inj h2
  rw [← h3] at hkP
  have hn' : Z.methodNamed? ⟨y.cls, y.name, y.desc⟩ = some r0 := hn
  simp [Cond.before, Cond.holds, Cond.value, h1, hf, hn', hkP, hkPi]
theorem own_nf {s : State} {a0 : Array Value} {C : String} {y y' : MethodName} (hs : (Cond.selects C y' y').before a0 s = true) (hc : y'.cls = y.cls) : NotFace s y := fun r0 h0 => by
  obtain ⟨c2, r2, m2, q1, q2, q3, q4, kP, hkP, hkPi⟩ := Cond.selects_spec hs
  have h1 := findClass_of_methodNamed h0
  have h2 := findClass_of_methodNamed q3
  rw [hc, h1] at h2
  have h3 : r0.cls = m2.cls := Option.some.inj h2
  exact ⟨kP, by rw [h3]; exact hkP, hkPi⟩
theorem own_shr0 (z : Int32) : z >>> ((0 : Int32) &&& 31) = z := by
  have h := c_ishr z 0 0 (by decide)
  apply Int32.toInt_inj.mp
  rw [h]
  show z.toInt / (1 : Int) = _
  omega
theorem own_shl0 (z : Int32) : z <<< ((0 : Int32) &&& 31) = z := by
  have h := c_ishl z 0 0 (by decide)
  have h1 := rng32 (z <<< ((0 : Int32) &&& 31))
  have h2 := rng32 z
  apply Int32.toInt_inj.mp
  rw [show ((2 ^ 0 : Nat) : Int) = 1 from rfl] at h
  omega
theorem own_sub0 (z : Int32) : z - (0 : Int32) = z := by
  have h := c_isub z 0
  have h1 := rng32 (z - 0)
  have h2 := rng32 z
  rw [show (0 : Int32).toInt = 0 from rfl] at h
  apply Int32.toInt_inj.mp
  omega
theorem own_clamp {z : Int32} {n : Nat} (h : z.toInt = (n : Int)) : z.toNatClampNeg = n := by simp only [Int32.toNatClampNeg]; omega
theorem own_nonneg {z : Int32} {n : Nat} (h : z.toInt = (n : Int)) : ¬ z < 0 := by rw [Int32.lt_iff_toInt_lt, show (0 : Int32).toInt = 0 from rfl]; omega
theorem own_range {us tl : List Value} {d : Value} {n : Int32} (h : n.toInt = (us.length : Int)) : us = (List.range n.toNatClampNeg).map fun i => (us ++ tl).getD ((0 : Int32).toNatClampNeg + i) d := by
  rw [own_clamp h]
  apply List.ext_getElem
  · simp
  · intro i h1 h2
    simp only [List.getElem_map, List.getElem_range]
    rw [show (0 : Int32).toNatClampNeg + i = i from Nat.zero_add i, List.getD_eq_getElem?_getD, List.getElem?_append_left h1, List.getElem?_eq_getElem h1]
    rfl
theorem own_cp {bs rest us : List Value} {k n : Int32} (hk : k.toInt = (bs.length : Int)) (hn : n.toInt = (us.length : Int)) : (bs ++ rest).take k.toNatClampNeg ++ us ++ (bs ++ rest).drop (k.toNatClampNeg + n.toNatClampNeg) = (bs ++ us) ++ rest.drop us.length := by
  rw [own_clamp hk, own_clamp hn, List.take_left, ← List.drop_drop, List.drop_left]
theorem own_cp0 {us zs : List Value} {n : Int32} (hn : n.toInt = (us.length : Int)) (hz : zs.length = us.length) : zs.take (0 : Int32).toNatClampNeg ++ us ++ zs.drop ((0 : Int32).toNatClampNeg + n.toNatClampNeg) = us := by
  rw [own_clamp hn, show (0 : Int32).toNatClampNeg = 0 from rfl, Nat.zero_add, ← hz, List.drop_length]
  simp
theorem own_addI {a b : Int32} {x y : Nat} (ha : a.toInt = (x : Int)) (hb : b.toInt = (y : Int)) (h : x + y ≤ 1000000) : (a + b).toInt = ((x + y : Nat) : Int) := by
  have h1 := c_iadd a b
  have h2 := rng32 (a + b)
  omega
theorem own_subNP {a b : Int32} (h0 : 0 ≤ a.toInt) (h1 : 0 ≤ b.toInt) (h : a.toInt ≤ b.toInt) : ¬ ((0 : Int32) < a - b) := by
  have h2 := c_isub a b
  have h3 := rng32 (a - b)
  have h4 := rng32 a
  have h5 := rng32 b
  rw [Int32.lt_iff_toInt_lt, show (0 : Int32).toInt = 0 from rfl]
  omega
def own_EL : List (String × Nat) := [("com/example/beanharness/beanharness/Finding", 26), ("com/example/beanharness/beanharness/Finding", 28), ("java/lang/String", 7)]
theorem own_EW {Z : State} {a0 : Array Value} (hw : ∀ d ∈ tables_1, d.before a0 Z = true) : EW Z a0 own_EL := EW.cons (text := " [") (hw _ (List.mem_of_getElem? (i := 129) rfl)) (by decide) (EW.cons (text := "]: ") (hw _ (List.mem_of_getElem? (i := 130) rfl)) (by decide) (EW.cons (text := "") (hw _ (List.mem_of_getElem? (i := 38) rfl)) (by decide) (EW.nil)))
theorem own_wS {Z : State} {a0 : Array Value} (hw : ∀ d ∈ tables_1, d.before a0 Z = true) : ∀ a ∈ Bundle.stringAtoms, a.before a0 Z = true := fun d hd => hw d ((by decide +kernel : ∀ d ∈ Bundle.stringAtoms, d ∈ tables_1) d hd)
def own_P (cs : List Int32) : Prop := ∀ c ∈ cs, ¬ c < 0 ∧ ¬ (255 : Int32) < c
theorem own_i255 {x : Int32} (h0 : 0 ≤ x.toInt) (h1 : x.toInt ≤ 255) : x.toUInt32.toUInt16.toUInt32.toInt32 = x := by
  have h := c_i2c x
  apply Int32.toInt_inj.mp
  omega
theorem own_nar {x : Int32} (h : ¬ x < 0 ∧ ¬ (255 : Int32) < x) : nar .char x = x := by
  rw [Int32.lt_iff_toInt_lt, Int32.lt_iff_toInt_lt, show (0 : Int32).toInt = 0 from rfl, show (255 : Int32).toInt = 255 from rfl] at h
  exact own_i255 (by omega) (by omega)
theorem own_ofNat {n : Nat} (h : n ≤ 1000000) : (Int32.ofNat n).toInt = (n : Int) := Int32.toInt_ofNat_of_lt (by omega)
theorem own_eqOf {j : Int32} {n : Nat} (h : j.toInt = (n : Int)) (hn : n ≤ 1000000) : j = Int32.ofNat n := Int32.toInt_inj.mp (by rw [own_ofNat hn]; exact h)
theorem own_mem {a : List Int32} {i : Nat} (h : i < a.length) (hp : own_P a) : ¬ (a.getD i 0) < 0 ∧ ¬ (255 : Int32) < a.getD i 0 := by
  rw [List.getD_eq_getElem?_getD, List.getElem?_eq_getElem h]
  exact hp _ (List.getElem_mem h)
theorem own_sfn {Z : State} {EL : List (String × Nat)} {vm : Vm} {h : Heap} {x : Addr} (hal : Z.vm.Alike vm) (E : Exa Z h x "java/lang/String") (F : Fld Z h x "java/lang/String" "value" "[B" .null) : Safe Z EL vm h x := fun B => by
  obtain ⟨p, -, u, a, -, q, -, S, hy⟩ := B
  have hd := S.hd
  obtain ⟨cell, cf, k, i, f, e1, e2, e3, e4, e5, e6, e7⟩ := F
  obtain ⟨cS, ⟨⟨g0, -, -, ⟨c1, k1, i1, f1, -⟩, -, -, -, v1, -⟩, -⟩, -, gB, -⟩ := S
  rcases hy with rfl | rfl
  · obtain ⟨k3, e8, -⟩ := State.fieldFound?_setVm (s := ({ Z with heap := h } : State)) hal e2
    have e9 := (show (Wst Z vm h).fieldFound? _ _ _ = _ from e8).symm.trans f1
    simp only [Option.some.injEq, Prod.mk.injEq] at e9
    have hc : cell = q.sC := Option.some.inj (e1.symm.trans g0)
    rw [hc, e9.2.2.2, v1] at e7
    cases e7
  · obtain ⟨c2, k2, y1, y2, -⟩ := E
    have hc : c2 = q.SA := Option.some.inj (y1.symm.trans hd)
    have gB' : vm.findClass "[B" = some q.SA.cls := gB
    rw [hal.findClass, ← hc] at gB'
    obtain ⟨m1, q1, q2⟩ := Vm.findClass_spec gB'
    obtain ⟨m2, q3, q4⟩ := Vm.findClass_spec y2
    cases q1.symm.trans q3
    exact absurd (q2.symm.trans q4) (by decide)
def own_hi (x : Int32) : Int32 := ((x.toUInt32 >>> ((8 : Int32) &&& 31).toUInt32).toInt32)
def own_Mk (pn pb : Int32) (cs : List Int32) : Prop := (pn = (0 : Int32) ∧ cs = []) ∨ (pn = (1 : Int32) ∧ cs = [(pb &&& (255 : Int32))]) ∨ (pn = (2 : Int32) ∧ cs = [(pb &&& (255 : Int32)), (own_hi pb &&& (255 : Int32))])
theorem own_mkE {r : Int32} (h : r = 0 ∨ r = 1 ∨ r = 2) (pb : Int32) : ∃ cs, own_Mk r pb cs := by
  rcases h with h | h | h
  · exact ⟨_, Or.inl ⟨h, rfl⟩⟩
  · exact ⟨_, Or.inr (Or.inl ⟨h, rfl⟩)⟩
  · exact ⟨_, Or.inr (Or.inr ⟨h, rfl⟩)⟩
theorem own_w255 (x : Int32) : ¬ (x &&& (255 : Int32)) < 0 ∧ ¬ (255 : Int32) < (x &&& (255 : Int32)) := own_in255 _ (own_m255 x).1 (own_m255 x).2
theorem own_mkP {pn pb : Int32} {cs : List Int32} (h : own_Mk pn pb cs) : own_P cs := by
  intro c hc
  rcases h with ⟨-, rfl⟩ | ⟨-, rfl⟩ | ⟨-, rfl⟩
  · cases hc
  · simp only [List.mem_cons, List.not_mem_nil, or_false] at hc
    subst hc
    exact own_w255 _
  · simp only [List.mem_cons, List.not_mem_nil, or_false] at hc
    rcases hc with rfl | rfl
    · exact own_w255 _
    · exact own_w255 _
theorem own_mkL {pn pb : Int32} {cs : List Int32} (h : own_Mk pn pb cs) : cs.length ≤ 2 := by
  rcases h with ⟨-, rfl⟩ | ⟨-, rfl⟩ | ⟨-, rfl⟩ <;> simp
theorem own_and3 (x : Int32) : 0 ≤ (x &&& (3 : Int32)).toInt ∧ (x &&& (3 : Int32)).toInt ≤ 3 := c_and x 3 (by decide)
def own_all (a b c : List Int32) : List Int32 := a ++ (32 :: 91 :: (b ++ (93 :: 58 :: 32 :: c)))
theorem own_len (a b c : List Int32) : (own_all a b c).length = a.length + b.length + c.length + 5 := by unfold own_all; simp; omega
theorem own_allP {a b c : List Int32} (ha : own_P a) (hb : own_P b) (hc : own_P c) : own_P (own_all a b c) := by
  intro x hx
  unfold own_all at hx
  simp only [List.mem_append, List.mem_cons] at hx
  rcases hx with h | rfl | rfl | h | rfl | rfl | rfl | h
  · exact ha x h
  · decide
  · decide
  · exact hb x h
  · decide
  · decide
  · decide
  · exact hc x h
theorem own_getV {al : List Int32} {pd : List Value} {j : Nat} (h : j < al.length) : (al.map Value.int ++ pd).getD j (.int (0 : Int32)) = .int (al.getD j 0) := by
  rw [List.getD_eq_getElem?_getD, List.getElem?_append_left (by rw [List.length_map]; exact h), List.getElem?_map, List.getD_eq_getElem?_getD, List.getElem?_eq_getElem h]
  rfl
theorem own_iu8 (x : Int32) : ((x.toUInt32 >>> ((8 : Int32) &&& 31).toUInt32).toInt32) = own_hi x := rfl
theorem d17_0 : decode jdk_42_method_152_code 0 = .ok (.getstatic 38, 3) := by decide +kernel
theorem d17_3 : decode jdk_42_method_152_code 3 = .ok (.ifCond .eq 10, 3) := by decide +kernel
theorem d17_6 : decode jdk_42_method_152_code 6 = .ok (.aload_n 0, 1) := by decide +kernel
theorem d17_7 : decode jdk_42_method_152_code 7 = .ok (.getfield 15, 3) := by decide +kernel
theorem d17_10 : decode jdk_42_method_152_code 10 = .ok (.goto 4, 3) := by decide +kernel
theorem d17_14 : decode jdk_42_method_152_code 14 = .ok (.ireturn, 1) := by decide +kernel
theorem pn_17 : plainName "java/lang/String" = true := by first | (simp [plainName, overriddenIn]; done) | decide +kernel
theorem ef_rmCo (m : MethodId) (x0 : Addr) : entryFrame m #[(.ref x0)] 1 = mkF m 0 #[.val (.ref x0)] [] := by first | (simp [entryFrame, mkF, argsToLocals, Value.category]; done) | rfl
def Q_rmCo (Z : State) (x : Addr) (zc : Int32) (h0 : Heap) (n0 : Nat) (v : Option Value) (h : Heap) (L : List Loc) : Prop := v = some (.int (0 : Int32)) ∧ Fr n0 L ∧ h = h0
set_option maxRecDepth 65536 in
set_option maxHeartbeats 40000000 in
theorem rmCo (l : Launch) (Z : State) (a0 : Array Value) (hw : ∀ d ∈ tables_1, d.before a0 Z = true) (ws : List Jvm.Cond) (x : Addr) (zc : Int32) (h0 : Heap) (n0 : Nat) (Z0 : n0 ≤ h0.size) (pE_x : Exa Z h0 x "java/lang/String") (pF_coder_x : Fld Z h0 x "java/lang/String" "coder" "B" (.int (0 : Int32))) (pS_COMPACT_STRINGS : Sta Z Z.heap "java/lang/String" "COMPACT_STRINGS" "Z" (.int zc)) (pP5 : (¬ (zc = (0 : Int32)))) (pO : Old Z n0 h0) :
    MetFree l (⟨"java/lang/String", "coder", "()B"⟩ : MethodName) (head1 (Jvm.Cond.code (⟨"java/lang/String", "coder", "()B"⟩ : MethodName) jdk_42_method_152_code 1 (some .byte) :: ws) ({ frames := 0, cells := 0, slots := 0, locals := 0 } : Room)) (fun a U => a = #[(.ref x)] ∧ Z.Warmed39 U.vm ∧ U.heap = h0) (fun _ _ _ _ _ => True) (fun _ U o U' => ∃ v L, o = .returned v ∧ Q_rmCo Z x zc h0 n0 v U'.heap L ∧ FrameEnd U o U' L ({ frames := 0, cells := 0, slots := 0, locals := 0 } : Room).cells ({ frames := 0, cells := 0, slots := 0, locals := 0 } : Room).slots) := by
  refine MetFree.of_bodySF (plainFor_of_name pn_17) hisR ?_
  intro p e s m args below meth c s₁ Bd hml0 hP hK
  obtain ⟨rfl, hZ, hh⟩ := hP
  have hx := Bd.exec
  have hby := Bd.bytes
  have hml : c.maxLocals = 1 := hml0
  have hown : s.vm.findClass "java/lang/String" = some m.cls := findClass_of_methodNamed Bd.named
  have hnm := (name_of_methodNamed Bd.named Bd.method).1
  have X0 : Stand p l e ({ frames := 0, cells := 0, slots := 0, locals := 0 } : Room) s m #[(.ref x)] below meth c s₁ [] 0 0 := Stand.of_body Bd
  have e0 : s₁.heap = h0 := by rw [← hh, Bd.state]; rfl
  have N0 := Fr.nil n0
  refine own_enter (ef_rmCo m x) ?_
  obtain ⟨T1, X1, e1, st1⟩ := getS2 X0 hx hZ hown (host := "") (Or.inl (own_w hw 22 rfl)) Via.refl e0 (pS_COMPACT_STRINGS.ext pO.2) (g := (mkF m 0 #[.val (.ref x)] [])) rfl (hb hby d17_0)
  refine own_st st1 ?_
  show own_Go p e below T1 (mkF m 3 #[.val (.ref x)] [(.int zc)]) _
  refine own_st (fun t_ k_ => XS.ifNo X1.here hx rfl (hb hby d17_3) rfl ((if0 _ _).trans (feq pP5).1) (XS.aloadN X1.here hx rfl (hb hby d17_6) rfl rfl k_)) ?_
  show own_Go p e below T1 (mkF m 7 #[.val (.ref x)] [(.ref x)]) _
  obtain ⟨T2, X2, e2, st2⟩ := getF X1 hx hZ hown (host := "") (Or.inl (own_w hw 34 rfl)) Via.refl e1 pF_coder_x (g := (mkF m 7 #[.val (.ref x)] [(.ref x)])) rfl rfl (hb hby d17_7)
  refine own_st st2 ?_
  show own_Go p e below T2 (mkF m 10 #[.val (.ref x)] [(.int (0 : Int32))]) _
  refine own_st (fun t_ k_ => XS.goto X2.here hx rfl (pc0 := 10) (pc' := 14) rfl (hb hby d17_10) (by decide) (by decide) k_) ?_
  show own_Go p e below T2 (mkF m 14 #[.val (.ref x)] [(.int (0 : Int32))]) _
  obtain ⟨fs, hr, hrun, hended, hW, hsame⟩ := X2.leave (v := some (.int (0 : Int32))) (fun h => by rw [Bd.returns] at h; cases h)
  refine own_fin (retN X2 hx (t := .byte) Bd.returns (by simp) (hb hby d17_14) hr) ⟨hrun, hended, _, _, rfl, ?_, ⟨_, rfl⟩, hW, hsame.mono (by decide) (by decide)⟩
  show Q_rmCo Z x zc h0 n0 _ T2.heap _
  rw [e2]
  exact ⟨rfl, N0, rfl⟩
theorem d16_0 : decode jdk_42_method_54_code 0 = .ok (.aload_n 0, 1) := by decide +kernel
theorem d16_1 : decode jdk_42_method_54_code 1 = .ok (.getfield 9, 3) := by decide +kernel
theorem d16_4 : decode jdk_42_method_54_code 4 = .ok (.arraylength, 1) := by decide +kernel
theorem d16_5 : decode jdk_42_method_54_code 5 = .ok (.aload_n 0, 1) := by decide +kernel
theorem d16_6 : decode jdk_42_method_54_code 6 = .ok (.invokevirtual 335, 3) := by decide +kernel
theorem d16_9 : decode jdk_42_method_54_code 9 = .ok (.ishr, 1) := by decide +kernel
theorem d16_10 : decode jdk_42_method_54_code 10 = .ok (.ireturn, 1) := by decide +kernel
theorem pn_16 : plainName "java/lang/String" = true := by first | (simp [plainName, overriddenIn]; done) | decide +kernel
theorem pd___B : parseMethodDescriptor "()B" = some ⟨[], some .byte⟩ := by decide +kernel
theorem ef_rmLe (m : MethodId) (x0 : Addr) : entryFrame m #[(.ref x0)] 1 = mkF m 0 #[.val (.ref x0)] [] := by first | (simp [entryFrame, mkF, argsToLocals, Value.category]; done) | rfl
def Q_rmLe (Z : State) (x : Addr) (tx : Addr) (kx : ClassId) (n : Int32) (us : List Value) (zc : Int32) (h0 : Heap) (n0 : Nat) (v : Option Value) (h : Heap) (L : List Loc) : Prop := v = some (.int n) ∧ Fr n0 L ∧ h = h0
set_option maxRecDepth 65536 in
set_option maxHeartbeats 40000000 in
theorem rmLe (l : Launch) (Z : State) (a0 : Array Value) (hw : ∀ d ∈ tables_1, d.before a0 Z = true) (ws : List Jvm.Cond) (x : Addr) (tx : Addr) (kx : ClassId) (n : Int32) (us : List Value) (zc : Int32) (h0 : Heap) (n0 : Nat) (Z0 : n0 ≤ h0.size) (pE_x : Exa Z h0 x "java/lang/String") (pF_value_x : Fld Z h0 x "java/lang/String" "value" "[B" (.ref tx)) (pF_coder_x : Fld Z h0 x "java/lang/String" "coder" "B" (.int (0 : Int32))) (pV_tx : Arv Z h0 tx kx .byte n us (.int 0)) (pS_COMPACT_STRINGS : Sta Z Z.heap "java/lang/String" "COMPACT_STRINGS" "Z" (.int zc)) (pP5 : (¬ (zc = (0 : Int32)))) (pO : Old Z n0 h0) :
    MetFree l (⟨"java/lang/String", "length", "()I"⟩ : MethodName) (head1 (Jvm.Cond.code (⟨"java/lang/String", "length", "()I"⟩ : MethodName) jdk_42_method_54_code 1 (some .int) :: ws) ({ frames := 1, cells := 0, slots := 0, locals := 13 } : Room)) (fun a U => a = #[(.ref x)] ∧ Z.Warmed39 U.vm ∧ U.heap = h0) (fun _ _ _ _ _ => True) (fun _ U o U' => ∃ v L, o = .returned v ∧ Q_rmLe Z x tx kx n us zc h0 n0 v U'.heap L ∧ FrameEnd U o U' L ({ frames := 1, cells := 0, slots := 0, locals := 13 } : Room).cells ({ frames := 1, cells := 0, slots := 0, locals := 13 } : Room).slots) := by
  refine MetFree.of_bodySF (plainFor_of_name pn_16) hisR ?_
  intro p e s m args below meth c s₁ Bd hml0 hP hK
  obtain ⟨rfl, hZ, hh⟩ := hP
  have hx := Bd.exec
  have hby := Bd.bytes
  have hml : c.maxLocals = 1 := hml0
  have hown : s.vm.findClass "java/lang/String" = some m.cls := findClass_of_methodNamed Bd.named
  have hnm := (name_of_methodNamed Bd.named Bd.method).1
  have X0 : Stand p l e ({ frames := 1, cells := 0, slots := 0, locals := 13 } : Room) s m #[(.ref x)] below meth c s₁ [] 0 0 := Stand.of_body Bd
  have e0 : s₁.heap = h0 := by rw [← hh, Bd.state]; rfl
  have N0 := Fr.nil n0
  refine own_enter (ef_rmLe m x) ?_
  refine own_st (fun t_ k_ => XS.aloadN X0.here hx rfl (hb hby d16_0) rfl rfl k_) ?_
  show own_Go p e below s₁ (mkF m 1 #[.val (.ref x)] [(.ref x)]) _
  obtain ⟨T1, X1, e1, st1⟩ := getF X0 hx hZ hown (host := "") (Or.inl (own_w hw 36 rfl)) Via.refl e0 pF_value_x (g := (mkF m 1 #[.val (.ref x)] [(.ref x)])) rfl rfl (hb hby d16_1)
  refine own_st st1 ?_
  show own_Go p e below T1 (mkF m 4 #[.val (.ref x)] [(.ref tx)]) _
  obtain ⟨cl2, Ar2, q2, Sz2, Nn2, Hh2, Gg2⟩ := id pV_tx
  refine own_st (fun t_ k_ => X1.arraylength hx (by rw [e1]; exact Ar2.1) (State.isArrayOf_alike hZ.alike Ar2.2.1) (g := (mkF m 4 #[.val (.ref x)] [(.ref tx)])) rfl rfl (hb hby d16_4) _ k_) ?_
  rw [len_of Sz2 Nn2]
  show own_Go p e below T1 (mkF m 5 #[.val (.ref x)] [(.int n)]) _
  refine own_st (fun t_ k_ => XS.aloadN X1.here hx rfl (hb hby d16_5) rfl rfl k_) ?_
  show own_Go p e below T1 (mkF m 6 #[.val (.ref x)] [(.ref x), (.int n)]) _
  obtain ⟨cq3, kq3, qa3, qb3, qc3⟩ := isOf hZ e1 pE_x
  obtain ⟨_, _, ⟨T3, L3, k3, n3⟩, -, X3, ⟨Lc3, hQ3, l3, y3, z3⟩, st3⟩ := X1.virtualBack hx (y := (⟨"java/lang/String", "coder", "()B"⟩ : MethodName)) (z := (⟨"java/lang/String", "coder", "()B"⟩ : MethodName)) hown (mvT hZ (own_w hw 97 rfl)) (mvT hZ (own_w hw 98 rfl)) (notFace_of_selects (args := #[]) (mvT hZ (own_w hw 100 rfl))) (mvT hZ (own_w hw 100 rfl)) (mvT hZ (own_w hw 99 rfl)) (by decide) (backOf (W := 1) (rmCo l Z a0 hw [] x zc h0 n0 Z0 pE_x pF_coder_x pS_COMPACT_STRINGS pP5 pO) hZ (own_w hw 101 rfl) (own_w hw 11 rfl) (by decide) (by decide)) qa3 qc3 (g := (mkF m 6 #[.val (.ref x)] [(.ref x), (.int n)])) rfl (by rw [hml]; rfl) (Steps.refl _) (argsL := []) (rest := [(.int n)]) (lenOf pd___B rfl) rfl (by show 2 * 0 + _ ≤ _; exact Nat.le_of_eq rfl) (hb hby d16_6) (fun _ _ => ⟨rfl, e1, (by decide : 0 + 0 ≤ _), (by decide : 0 + 0 ≤ _)⟩)
  dsimp only [Pt.U, Pt.locs, Pt.cells, Pt.slots] at X3 l3 y3 z3 st3 hQ3
  try dsimp only [Nat.reduceAdd] at y3 z3
  rw [l3, y3, z3] at X3
  obtain ⟨rfl, Nq3, eH3⟩ := hQ3
  have N3 := Fr.app N0 Nq3
  refine own_tr st3 ?_
  show own_Go p e below T3 (mkF m 9 #[.val (.ref x)] [(.int (0 : Int32)), (.int n)]) _
  refine own_st (fun t_ k_ => XS.ishr X3.here hx rfl (hb hby d16_9) rfl k_) ?_
  show own_Go p e below T3 (mkF m 10 #[.val (.ref x)] [(.int (n >>> ((0 : Int32) &&& 31)))]) _
  rw [own_shr0 n]
  show own_Go p e below T3 (mkF m 10 #[.val (.ref x)] [(.int n)]) _
  obtain ⟨fs, hr, hrun, hended, hW, hsame⟩ := X3.leave (v := some (.int n)) (fun h => by rw [Bd.returns] at h; cases h)
  refine own_fin (own_retI X3 hx Bd.returns (hb hby d16_10) hr) ⟨hrun, hended, _, _, rfl, ?_, ⟨_, rfl⟩, hW, hsame.mono (by decide) (by decide)⟩
  show Q_rmLe Z x tx kx n us zc h0 n0 _ T3.heap _
  rw [eH3]
  exact ⟨rfl, N3, rfl⟩
theorem d13_0 : decode jdk_68_method_2_code 0 = .ok (.aload_n 0, 1) := by decide +kernel
theorem d13_1 : decode jdk_68_method_2_code 1 = .ok (.invokespecial 3, 3) := by decide +kernel
theorem d13_4 : decode jdk_68_method_2_code 4 = .ok (.getstatic 18, 3) := by decide +kernel
theorem d13_7 : decode jdk_68_method_2_code 7 = .ok (.ifCond .eq 18, 3) := by decide +kernel
theorem d13_10 : decode jdk_68_method_2_code 10 = .ok (.aload_n 0, 1) := by decide +kernel
theorem d13_11 : decode jdk_68_method_2_code 11 = .ok (.iload_n 1, 1) := by decide +kernel
theorem d13_12 : decode jdk_68_method_2_code 12 = .ok (.newarray .byte, 2) := by decide +kernel
theorem d13_14 : decode jdk_68_method_2_code 14 = .ok (.putfield 15, 3) := by decide +kernel
theorem d13_17 : decode jdk_68_method_2_code 17 = .ok (.aload_n 0, 1) := by decide +kernel
theorem d13_18 : decode jdk_68_method_2_code 18 = .ok (.iconst 0, 1) := by decide +kernel
theorem d13_19 : decode jdk_68_method_2_code 19 = .ok (.putfield 22, 3) := by decide +kernel
theorem d13_22 : decode jdk_68_method_2_code 22 = .ok (.goto 16, 3) := by decide +kernel
theorem d13_38 : decode jdk_68_method_2_code 38 = .ok (.return_, 1) := by decide +kernel
theorem pn_13 : plainName "java/lang/AbstractStringBuilder" = true := by first | (simp [plainName, overriddenIn]; done) | decide +kernel
theorem ef_rmAbI (m : MethodId) (x0 : Addr) (x1 : Int32) : entryFrame m #[(.ref x0), (.int x1)] 2 = mkF m 0 #[.val (.ref x0), .val (.int x1)] [] := by first | (simp [entryFrame, mkF, argsToLocals, Value.category]; done) | rfl
def Q_rmAbI (Z : State) (a1 : Addr) (u1 : Value) (u2 : Value) (zc : Int32) (h0 : Heap) (n0 : Nat) (v : Option Value) (h : Heap) (L : List Loc) : Prop := ∃ va : Addr, ∃ kva : ClassId, v = none ∧ Fr n0 L ∧ Keep h0 h [a1] ∧ Exa Z h a1 "java/lang/StringBuilder" ∧ Fld Z h a1 "java/lang/AbstractStringBuilder" "value" "[B" (.ref va) ∧ Fld Z h a1 "java/lang/AbstractStringBuilder" "coder" "B" (.int (0 : Int32)) ∧ Fld Z h a1 "java/lang/AbstractStringBuilder" "count" "I" (.int (0 : Int32)) ∧ Arv Z h va kva .byte (16 : Int32) [(.int 0), (.int 0), (.int 0), (.int 0), (.int 0), (.int 0), (.int 0), (.int 0), (.int 0), (.int 0), (.int 0), (.int 0), (.int 0), (.int 0), (.int 0), (.int 0)] (.int 0) ∧ h0.size ≤ va ∧ n0 ≤ va
set_option maxRecDepth 65536 in
set_option maxHeartbeats 40000000 in
theorem rmAbI (l : Launch) (Z : State) (a0 : Array Value) (hw : ∀ d ∈ tables_1, d.before a0 Z = true) (ws : List Jvm.Cond) (a1 : Addr) (u1 : Value) (u2 : Value) (zc : Int32) (h0 : Heap) (n0 : Nat) (Z0 : n0 ≤ h0.size) (pE_a1 : Exa Z h0 a1 "java/lang/StringBuilder") (pF_value_a1 : Fld Z h0 a1 "java/lang/AbstractStringBuilder" "value" "[B" u1) (pF_coder_a1 : Fld Z h0 a1 "java/lang/AbstractStringBuilder" "coder" "B" u2) (pF_count_a1 : Fld Z h0 a1 "java/lang/AbstractStringBuilder" "count" "I" (.int (0 : Int32))) (pG_a1 : n0 ≤ a1) (pS_COMPACT_STRINGS : Sta Z Z.heap "java/lang/String" "COMPACT_STRINGS" "Z" (.int zc)) (pP5 : (¬ (zc = (0 : Int32)))) (pO : Old Z n0 h0) :
    MetFree l (⟨"java/lang/AbstractStringBuilder", "<init>", "(I)V"⟩ : MethodName) (head1 (Jvm.Cond.code (⟨"java/lang/AbstractStringBuilder", "<init>", "(I)V"⟩ : MethodName) jdk_68_method_2_code 2 none :: ws) ({ frames := 1, cells := 1, slots := 16, locals := 12 } : Room)) (fun a U => a = #[(.ref a1), (.int (16 : Int32))] ∧ Z.Warmed39 U.vm ∧ U.heap = h0) (fun _ _ _ _ _ => True) (fun _ U o U' => ∃ v L, o = .returned v ∧ Q_rmAbI Z a1 u1 u2 zc h0 n0 v U'.heap L ∧ FrameEnd U o U' L ({ frames := 1, cells := 1, slots := 16, locals := 12 } : Room).cells ({ frames := 1, cells := 1, slots := 16, locals := 12 } : Room).slots) := by
  refine MetFree.of_bodySF (plainFor_of_name pn_13) hisR ?_
  intro p e s m args below meth c s₁ Bd hml0 hP hK
  obtain ⟨rfl, hZ, hh⟩ := hP
  have hx := Bd.exec
  have hby := Bd.bytes
  have hml : c.maxLocals = 2 := hml0
  have hown : s.vm.findClass "java/lang/AbstractStringBuilder" = some m.cls := findClass_of_methodNamed Bd.named
  have hnm := (name_of_methodNamed Bd.named Bd.method).1
  have X0 : Stand p l e ({ frames := 1, cells := 1, slots := 16, locals := 12 } : Room) s m #[(.ref a1), (.int (16 : Int32))] below meth c s₁ [] 0 0 := Stand.of_body Bd
  have e0 : s₁.heap = h0 := by rw [← hh, Bd.state]; rfl
  have N0 := Fr.nil n0
  refine own_enter (ef_rmAbI m a1 ((16 : Int32))) ?_
  refine own_st (fun t_ k_ => XS.aloadN X0.here hx rfl (hb hby d13_0) rfl rfl k_) ?_
  show own_Go p e below s₁ (mkF m 1 #[.val (.ref a1), .val (.int (16 : Int32))] [(.ref a1)]) _
  obtain ⟨T1, X1, e1, st1⟩ := initO X0 hx hZ hown (own_w hw 76 rfl) (own_w hw 20 rfl) (own_w hw 21 rfl) e0 (g := (mkF m 1 #[.val (.ref a1), .val (.int (16 : Int32))] [(.ref a1)])) rfl (by rw [hml]; rfl) rfl (hb hby d13_1) (by decide) (W := 0) (by show 2 * 0 + _ ≤ _; exact Nat.le_of_eq rfl) (by decide)
  refine own_st st1 ?_
  show own_Go p e below T1 (mkF m 4 #[.val (.ref a1), .val (.int (16 : Int32))] []) _
  obtain ⟨T2, X2, e2, st2⟩ := getS2 X1 hx hZ hown (host := "") (Or.inl (own_w hw 77 rfl)) Via.refl e1 (pS_COMPACT_STRINGS.ext pO.2) (g := (mkF m 4 #[.val (.ref a1), .val (.int (16 : Int32))] [])) rfl (hb hby d13_4)
  refine own_st st2 ?_
  show own_Go p e below T2 (mkF m 7 #[.val (.ref a1), .val (.int (16 : Int32))] [(.int zc)]) _
  refine own_st (fun t_ k_ => XS.ifNo X2.here hx rfl (hb hby d13_7) rfl ((if0 _ _).trans (feq pP5).1) (XS.aloadN X2.here hx rfl (hb hby d13_10) rfl rfl (XS.iloadN X2.here hx rfl (hb hby d13_11) rfl k_))) ?_
  show own_Go p e below T2 (mkF m 12 #[.val (.ref a1), .val (.int (16 : Int32))] [(.int (16 : Int32)), (.ref a1)]) _
  obtain ⟨T3, h3, k3, X3, e3, E3, A3, st3⟩ := newP X2 hx hZ (own_w hw 27 rfl) e2 (g := (mkF m 12 #[.val (.ref a1), .val (.int (16 : Int32))] [(.int (16 : Int32)), (.ref a1)])) rfl (hb hby d13_12) rfl (by decide) (cap := 16) (by decide) (by decide) (by decide) (by decide)
  obtain ⟨b3, g3⟩ : ∃ z, z = h0.size := ⟨_, rfl⟩
  rw [← g3] at A3 st3
  have G3 : n0 ≤ b3 := Nat.le_trans Z0 (Nat.le_of_eq g3.symm)
  have B3 : h0.size ≤ b3 := Nat.le_trans (Keep.refl h0 [a1]).1 (Nat.le_of_eq g3.symm)
  have K4 : Keep h0 h3 [a1] := (Keep.refl h0 [a1]).ext E3
  have V3 : Arv Z h3 b3 k3 .byte (16 : Int32) [(.int (0 : Int32)), (.int (0 : Int32)), (.int (0 : Int32)), (.int (0 : Int32)), (.int (0 : Int32)), (.int (0 : Int32)), (.int (0 : Int32)), (.int (0 : Int32)), (.int (0 : Int32)), (.int (0 : Int32)), (.int (0 : Int32)), (.int (0 : Int32)), (.int (0 : Int32)), (.int (0 : Int32)), (.int (0 : Int32)), (.int (0 : Int32))] (.int (0 : Int32)) := (Arv.new A3 (by decide)).pad (pad_rep [] (.int (0 : Int32)) 16)
  refine own_st st3 ?_
  show own_Go p e below T3 (mkF m 14 #[.val (.ref a1), .val (.int (16 : Int32))] [(.ref b3), (.ref a1)]) _
  have f5 := (pE_a1.ext E3)
  have f6 := (pF_value_a1.ext E3)
  obtain ⟨T7, h7, X7, e7, W7, st7⟩ := putF X3 hx hZ hown (host := "") (Or.inl (own_w hw 78 rfl)) Via.refl e3 f6 f5 (Or.inl (own_w hw 79 rfl)) (own_w hw 65 rfl) (ty := (.array .byte)) (by decide) rfl rfl (g := (mkF m 14 #[.val (.ref a1), .val (.int (16 : Int32))] [(.ref b3), (.ref a1)])) rfl rfl (hb hby d13_14)
  have F7 := f6.same W7
  have K8 : Keep h0 h7 [a1] := K4.wr W7 (Or.inl (List.mem_of_getElem? (i := 0) rfl))
  have N7 := Fr.snoc X7 N0 pG_a1
  refine own_st st7 ?_
  show own_Go p e below T7 (mkF m 17 #[.val (.ref a1), .val (.int (16 : Int32))] []) _
  refine own_st (fun t_ k_ => XS.aloadN X7.here hx rfl (hb hby d13_17) rfl rfl (XS.iconst X7.here hx rfl (hb hby d13_18) k_)) ?_
  show own_Go p e below T7 (mkF m 19 #[.val (.ref a1), .val (.int (16 : Int32))] [(.int (0 : Int32)), (.ref a1)]) _
  have f9 := (f5.wr W7)
  have f10 := ((pF_coder_a1.ext E3).other W7 (Or.inr (slot_ne (Or.inl (own_w hw 81 rfl)) (Or.inl (own_w hw 79 rfl)) (by decide) (t := .byte) (t' := (.array .byte)) (by decide) (by decide))))
  obtain ⟨T11, h11, X11, e11, W11, st11⟩ := putFN X7 hx hZ hown (own_w hw 80 rfl) Via.refl e7 f10 f9 (Or.inl (own_w hw 81 rfl)) (own_w hw 65 rfl) (ty := .byte) (v' := (.int (0 : Int32))) (by decide) rfl (by decide) (g := (mkF m 19 #[.val (.ref a1), .val (.int (16 : Int32))] [(.int (0 : Int32)), (.ref a1)])) rfl rfl (hb hby d13_19)
  have F11 := f10.same W11
  have K12 : Keep h0 h11 [a1] := K8.wr W11 (Or.inl (List.mem_of_getElem? (i := 0) rfl))
  have N11 := Fr.snoc X11 N7 pG_a1
  refine own_st st11 ?_
  show own_Go p e below T11 (mkF m 22 #[.val (.ref a1), .val (.int (16 : Int32))] []) _
  refine own_st (fun t_ k_ => XS.goto X11.here hx rfl (pc0 := 22) (pc' := 38) rfl (hb hby d13_22) (by decide) (by decide) k_) ?_
  show own_Go p e below T11 (mkF m 38 #[.val (.ref a1), .val (.int (16 : Int32))] []) _
  have f13 := (f9.wr W11)
  have f14 := (F7.other W11 (Or.inr (slot_ne (Or.inl (own_w hw 79 rfl)) (Or.inl (own_w hw 81 rfl)) (by decide) (t := (.array .byte)) (t' := .byte) (by decide) (by decide))))
  have f15 := (((pF_count_a1.ext E3).other W7 (Or.inr (slot_ne (Or.inl (own_w hw 103 rfl)) (Or.inl (own_w hw 79 rfl)) (by decide) (t := .int) (t' := (.array .byte)) (by decide) (by decide)))).other W11 (Or.inr (slot_ne (Or.inl (own_w hw 103 rfl)) (Or.inl (own_w hw 81 rfl)) (by decide) (t := .int) (t' := .byte) (by decide) (by decide))))
  have f16 := ((V3.other W7 (Ne.symm (Nat.ne_of_lt (Nat.lt_of_lt_of_le pE_a1.lt (Nat.le_of_eq g3.symm))))).other W11 (Ne.symm (Nat.ne_of_lt (Nat.lt_of_lt_of_le pE_a1.lt (Nat.le_of_eq g3.symm)))))
  obtain ⟨fs, hr, hrun, hended, hW, hsame⟩ := X11.leave (v := none) (fun _ => rfl)
  refine own_fin (X11.returnOut hx Bd.returns (hb hby d13_38) hr) ⟨hrun, hended, _, _, rfl, ?_, ⟨_, rfl⟩, hW, hsame.mono (by decide) (by decide)⟩
  show Q_rmAbI Z a1 u1 u2 zc h0 n0 _ T11.heap _
  rw [e11]
  exact ⟨b3, k3, rfl, N11, K12, f13, f14, F11, f15, f16, B3, G3⟩
theorem d12_0 : decode jdk_67_method_1_code 0 = .ok (.aload_n 0, 1) := by decide +kernel
theorem d12_1 : decode jdk_67_method_1_code 1 = .ok (.bipush 16, 2) := by decide +kernel
theorem d12_3 : decode jdk_67_method_1_code 3 = .ok (.invokespecial 1, 3) := by decide +kernel
theorem d12_6 : decode jdk_67_method_1_code 6 = .ok (.return_, 1) := by decide +kernel
theorem pn_12 : plainName "java/lang/StringBuilder" = true := by first | (simp [plainName, overriddenIn]; done) | decide +kernel
theorem pd__I_V : parseMethodDescriptor "(I)V" = some ⟨[.int], none⟩ := by decide +kernel
theorem ef_rmSbI (m : MethodId) (x0 : Addr) : entryFrame m #[(.ref x0)] 1 = mkF m 0 #[.val (.ref x0)] [] := by first | (simp [entryFrame, mkF, argsToLocals, Value.category]; done) | rfl
def Q_rmSbI (Z : State) (a1 : Addr) (u1 : Value) (u2 : Value) (zc : Int32) (h0 : Heap) (n0 : Nat) (v : Option Value) (h : Heap) (L : List Loc) : Prop := ∃ va : Addr, ∃ kva : ClassId, v = none ∧ Fr n0 L ∧ Keep h0 h [a1] ∧ Exa Z h a1 "java/lang/StringBuilder" ∧ Fld Z h a1 "java/lang/AbstractStringBuilder" "value" "[B" (.ref va) ∧ Fld Z h a1 "java/lang/AbstractStringBuilder" "coder" "B" (.int (0 : Int32)) ∧ Fld Z h a1 "java/lang/AbstractStringBuilder" "count" "I" (.int (0 : Int32)) ∧ Arv Z h va kva .byte (16 : Int32) [(.int 0), (.int 0), (.int 0), (.int 0), (.int 0), (.int 0), (.int 0), (.int 0), (.int 0), (.int 0), (.int 0), (.int 0), (.int 0), (.int 0), (.int 0), (.int 0)] (.int 0) ∧ h0.size ≤ va ∧ n0 ≤ va
set_option maxRecDepth 65536 in
set_option maxHeartbeats 40000000 in
theorem rmSbI (l : Launch) (Z : State) (a0 : Array Value) (hw : ∀ d ∈ tables_1, d.before a0 Z = true) (ws : List Jvm.Cond) (a1 : Addr) (u1 : Value) (u2 : Value) (zc : Int32) (h0 : Heap) (n0 : Nat) (Z0 : n0 ≤ h0.size) (pE_a1 : Exa Z h0 a1 "java/lang/StringBuilder") (pF_value_a1 : Fld Z h0 a1 "java/lang/AbstractStringBuilder" "value" "[B" u1) (pF_coder_a1 : Fld Z h0 a1 "java/lang/AbstractStringBuilder" "coder" "B" u2) (pF_count_a1 : Fld Z h0 a1 "java/lang/AbstractStringBuilder" "count" "I" (.int (0 : Int32))) (pG_a1 : n0 ≤ a1) (pS_COMPACT_STRINGS : Sta Z Z.heap "java/lang/String" "COMPACT_STRINGS" "Z" (.int zc)) (pP5 : (¬ (zc = (0 : Int32)))) (pO : Old Z n0 h0) :
    MetFree l (⟨"java/lang/StringBuilder", "<init>", "()V"⟩ : MethodName) (head1 (Jvm.Cond.code (⟨"java/lang/StringBuilder", "<init>", "()V"⟩ : MethodName) jdk_67_method_1_code 1 none :: ws) ({ frames := 2, cells := 1, slots := 16, locals := 25 } : Room)) (fun a U => a = #[(.ref a1)] ∧ Z.Warmed39 U.vm ∧ U.heap = h0) (fun _ _ _ _ _ => True) (fun _ U o U' => ∃ v L, o = .returned v ∧ Q_rmSbI Z a1 u1 u2 zc h0 n0 v U'.heap L ∧ FrameEnd U o U' L ({ frames := 2, cells := 1, slots := 16, locals := 25 } : Room).cells ({ frames := 2, cells := 1, slots := 16, locals := 25 } : Room).slots) := by
  refine MetFree.of_bodySF (plainFor_of_name pn_12) hisR ?_
  intro p e s m args below meth c s₁ Bd hml0 hP hK
  obtain ⟨rfl, hZ, hh⟩ := hP
  have hx := Bd.exec
  have hby := Bd.bytes
  have hml : c.maxLocals = 1 := hml0
  have hown : s.vm.findClass "java/lang/StringBuilder" = some m.cls := findClass_of_methodNamed Bd.named
  have hnm := (name_of_methodNamed Bd.named Bd.method).1
  have X0 : Stand p l e ({ frames := 2, cells := 1, slots := 16, locals := 25 } : Room) s m #[(.ref a1)] below meth c s₁ [] 0 0 := Stand.of_body Bd
  have e0 : s₁.heap = h0 := by rw [← hh, Bd.state]; rfl
  have N0 := Fr.nil n0
  refine own_enter (ef_rmSbI m a1) ?_
  refine own_st (fun t_ k_ => XS.aloadN X0.here hx rfl (hb hby d12_0) rfl rfl (XS.bipush X0.here hx rfl (hb hby d12_1) k_)) ?_
  show own_Go p e below s₁ (mkF m 3 #[.val (.ref a1)] [(.int (16 : Int32)), (.ref a1)]) _
  obtain ⟨_, _, ⟨T1, L1, k1, n1⟩, -, X1, ⟨Lc1, hQ1, l1, y1, z1⟩, st1⟩ := X0.specialBack hx (y := (⟨"java/lang/AbstractStringBuilder", "<init>", "(I)V"⟩ : MethodName)) rfl hown (mvT hZ (own_w hw 70 rfl)) (mvT hZ (own_w hw 71 rfl)) (mvT hZ (own_w hw 75 rfl)) (by decide) (backOf (W := 0) (rmAbI l Z a0 hw [] a1 u1 u2 zc h0 n0 Z0 pE_a1 pF_value_a1 pF_coder_a1 pF_count_a1 pG_a1 pS_COMPACT_STRINGS pP5 pO) hZ (own_w hw 75 rfl) (own_w hw 74 rfl) (by decide) (by decide)) (g := (mkF m 3 #[.val (.ref a1)] [(.int (16 : Int32)), (.ref a1)])) rfl (by rw [hml]; rfl) (Steps.refl _) (a := a1) (argsL := [(.int (16 : Int32))]) (rest := []) (lenOf pd__I_V rfl) rfl (by show 2 * 0 + _ ≤ _; exact Nat.le_of_eq rfl) (hb hby d12_3) (fun _ _ => ⟨rfl, e0, (by decide : 0 + 1 ≤ _), (by decide : 0 + 16 ≤ _)⟩)
  dsimp only [Pt.U, Pt.locs, Pt.cells, Pt.slots] at X1 l1 y1 z1 st1 hQ1
  try dsimp only [Nat.reduceAdd] at y1 z1
  rw [l1, y1, z1] at X1
  obtain ⟨va_1, kva_1, rfl, Nq1, Kq1, q1_0, q1_1, q1_2, q1_3, q1_4, q1_5, q1_6⟩ := hQ1
  have N1 := Fr.app N0 Nq1
  have K2 : Keep h0 T1.heap [a1] := (Keep.refl h0 [a1]).trans Kq1 (allS (Or.inl (List.mem_of_getElem? (i := 0) rfl)) all0)
  have Bf3 : h0.size ≤ va_1 := Nat.le_trans (Keep.refl h0 [a1]).1 q1_5
  refine own_tr st1 ?_
  show own_Go p e below T1 (mkF m 6 #[.val (.ref a1)] []) _
  obtain ⟨fs, hr, hrun, hended, hW, hsame⟩ := X1.leave (v := none) (fun _ => rfl)
  refine own_fin (X1.returnOut hx Bd.returns (hb hby d12_6) hr) ⟨hrun, hended, _, _, rfl, ?_, ⟨_, rfl⟩, hW, hsame.mono (by decide) (by decide)⟩
  show Q_rmSbI Z a1 u1 u2 zc h0 n0 _ T1.heap _
  exact ⟨va_1, kva_1, rfl, N1, K2, q1_0, q1_1, q1_2, q1_3, q1_4, Bf3, q1_6⟩
theorem d18_0 : decode jdk_68_method_9_code 0 = .ok (.aload_n 0, 1) := by decide +kernel
theorem d18_1 : decode jdk_68_method_9_code 1 = .ok (.getfield 15, 3) := by decide +kernel
theorem d18_4 : decode jdk_68_method_9_code 4 = .ok (.arraylength, 1) := by decide +kernel
theorem d18_5 : decode jdk_68_method_9_code 5 = .ok (.aload_n 0, 1) := by decide +kernel
theorem d18_6 : decode jdk_68_method_9_code 6 = .ok (.getfield 22, 3) := by decide +kernel
theorem d18_9 : decode jdk_68_method_9_code 9 = .ok (.ishr, 1) := by decide +kernel
theorem d18_10 : decode jdk_68_method_9_code 10 = .ok (.istore_n 2, 1) := by decide +kernel
theorem d18_11 : decode jdk_68_method_9_code 11 = .ok (.iload_n 1, 1) := by decide +kernel
theorem d18_12 : decode jdk_68_method_9_code 12 = .ok (.iload_n 2, 1) := by decide +kernel
theorem d18_13 : decode jdk_68_method_9_code 13 = .ok (.isub, 1) := by decide +kernel
theorem d18_14 : decode jdk_68_method_9_code 14 = .ok (.ifCond .le 24, 3) := by decide +kernel
theorem d18_38 : decode jdk_68_method_9_code 38 = .ok (.return_, 1) := by decide +kernel
theorem pn_18 : plainName "java/lang/AbstractStringBuilder" = true := by first | (simp [plainName, overriddenIn]; done) | decide +kernel
theorem ef_rmEc (m : MethodId) (x0 : Addr) (x1 : Int32) : entryFrame m #[(.ref x0), (.int x1)] 3 = mkF m 0 #[.val (.ref x0), .val (.int x1), .unset] [] := by first | (simp [entryFrame, mkF, argsToLocals, Value.category]; done) | rfl
def Q_rmEc (Z : State) (a1 : Addr) (va : Addr) (kva : ClassId) (cap : Int32) (vs : List Value) (mm : Int32) (h0 : Heap) (n0 : Nat) (v : Option Value) (h : Heap) (L : List Loc) : Prop := v = none ∧ Fr n0 L ∧ h = h0
set_option maxRecDepth 65536 in
set_option maxHeartbeats 40000000 in
theorem rmEc (l : Launch) (Z : State) (a0 : Array Value) (hw : ∀ d ∈ tables_1, d.before a0 Z = true) (ws : List Jvm.Cond) (a1 : Addr) (va : Addr) (kva : ClassId) (cap : Int32) (vs : List Value) (mm : Int32) (h0 : Heap) (n0 : Nat) (Z0 : n0 ≤ h0.size) (pE_a1 : Exa Z h0 a1 "java/lang/StringBuilder") (pF_value_a1 : Fld Z h0 a1 "java/lang/AbstractStringBuilder" "value" "[B" (.ref va)) (pF_coder_a1 : Fld Z h0 a1 "java/lang/AbstractStringBuilder" "coder" "B" (.int (0 : Int32))) (pV_va : Arv Z h0 va kva .byte cap vs (.int 0)) (hmm : (¬ ((0 : Int32) < mm - cap))) :
    MetFree l (⟨"java/lang/AbstractStringBuilder", "ensureCapacityInternal", "(I)V"⟩ : MethodName) (head1 (Jvm.Cond.code (⟨"java/lang/AbstractStringBuilder", "ensureCapacityInternal", "(I)V"⟩ : MethodName) jdk_68_method_9_code 3 none :: ws) ({ frames := 0, cells := 0, slots := 0, locals := 0 } : Room)) (fun a U => a = #[(.ref a1), (.int mm)] ∧ Z.Warmed39 U.vm ∧ U.heap = h0) (fun _ _ _ _ _ => True) (fun _ U o U' => ∃ v L, o = .returned v ∧ Q_rmEc Z a1 va kva cap vs mm h0 n0 v U'.heap L ∧ FrameEnd U o U' L ({ frames := 0, cells := 0, slots := 0, locals := 0 } : Room).cells ({ frames := 0, cells := 0, slots := 0, locals := 0 } : Room).slots) := by
  refine MetFree.of_bodySF (plainFor_of_name pn_18) hisR ?_
  intro p e s m args below meth c s₁ Bd hml0 hP hK
  obtain ⟨rfl, hZ, hh⟩ := hP
  have hx := Bd.exec
  have hby := Bd.bytes
  have hml : c.maxLocals = 3 := hml0
  have hown : s.vm.findClass "java/lang/AbstractStringBuilder" = some m.cls := findClass_of_methodNamed Bd.named
  have hnm := (name_of_methodNamed Bd.named Bd.method).1
  have X0 : Stand p l e ({ frames := 0, cells := 0, slots := 0, locals := 0 } : Room) s m #[(.ref a1), (.int mm)] below meth c s₁ [] 0 0 := Stand.of_body Bd
  have e0 : s₁.heap = h0 := by rw [← hh, Bd.state]; rfl
  have N0 := Fr.nil n0
  refine own_enter (ef_rmEc m a1 mm) ?_
  refine own_st (fun t_ k_ => XS.aloadN X0.here hx rfl (hb hby d18_0) rfl rfl k_) ?_
  show own_Go p e below s₁ (mkF m 1 #[.val (.ref a1), .val (.int mm), .unset] [(.ref a1)]) _
  obtain ⟨T1, X1, e1, st1⟩ := getF X0 hx hZ hown (host := "") (Or.inl (own_w hw 78 rfl)) Via.refl e0 pF_value_a1 (g := (mkF m 1 #[.val (.ref a1), .val (.int mm), .unset] [(.ref a1)])) rfl rfl (hb hby d18_1)
  refine own_st st1 ?_
  show own_Go p e below T1 (mkF m 4 #[.val (.ref a1), .val (.int mm), .unset] [(.ref va)]) _
  obtain ⟨cl2, Ar2, q2, Sz2, Nn2, Hh2, Gg2⟩ := id pV_va
  refine own_st (fun t_ k_ => X1.arraylength hx (by rw [e1]; exact Ar2.1) (State.isArrayOf_alike hZ.alike Ar2.2.1) (g := (mkF m 4 #[.val (.ref a1), .val (.int mm), .unset] [(.ref va)])) rfl rfl (hb hby d18_4) _ k_) ?_
  rw [len_of Sz2 Nn2]
  show own_Go p e below T1 (mkF m 5 #[.val (.ref a1), .val (.int mm), .unset] [(.int cap)]) _
  refine own_st (fun t_ k_ => XS.aloadN X1.here hx rfl (hb hby d18_5) rfl rfl k_) ?_
  show own_Go p e below T1 (mkF m 6 #[.val (.ref a1), .val (.int mm), .unset] [(.ref a1), (.int cap)]) _
  obtain ⟨T3, X3, e3, st3⟩ := getF X1 hx hZ hown (host := "") (Or.inl (own_w hw 80 rfl)) Via.refl e1 pF_coder_a1 (g := (mkF m 6 #[.val (.ref a1), .val (.int mm), .unset] [(.ref a1), (.int cap)])) rfl rfl (hb hby d18_6)
  refine own_st st3 ?_
  show own_Go p e below T3 (mkF m 9 #[.val (.ref a1), .val (.int mm), .unset] [(.int (0 : Int32)), (.int cap)]) _
  refine own_st (fun t_ k_ => XS.ishr X3.here hx rfl (hb hby d18_9) rfl k_) ?_
  show own_Go p e below T3 (mkF m 10 #[.val (.ref a1), .val (.int mm), .unset] [(.int (cap >>> ((0 : Int32) &&& 31)))]) _
  rw [own_shr0 cap]
  show own_Go p e below T3 (mkF m 10 #[.val (.ref a1), .val (.int mm), .unset] [(.int cap)]) _
  refine own_st (fun t_ k_ => XS.istoreN X3.here hx rfl (hb hby d18_10) rfl (l' := #[.val (.ref a1), .val (.int mm), .val (.int cap)]) rfl (XS.iloadN X3.here hx rfl (hb hby d18_11) rfl (XS.iloadN X3.here hx rfl (hb hby d18_12) rfl (XS.isub X3.here hx rfl (hb hby d18_13) rfl (XS.ifYes X3.here hx rfl (pc0 := 14) (pc' := 38) rfl (hb hby d18_14) rfl ((if0 _ _).trans (flt hmm).2.2.2) (by decide) (by decide) k_))))) ?_
  show own_Go p e below T3 (mkF m 38 #[.val (.ref a1), .val (.int mm), .val (.int cap)] []) _
  obtain ⟨fs, hr, hrun, hended, hW, hsame⟩ := X3.leave (v := none) (fun _ => rfl)
  refine own_fin (X3.returnOut hx Bd.returns (hb hby d18_38) hr) ⟨hrun, hended, _, _, rfl, ?_, ⟨_, rfl⟩, hW, hsame.mono (by decide) (by decide)⟩
  show Q_rmEc Z a1 va kva cap vs mm h0 n0 _ T3.heap _
  rw [e3]
  exact ⟨rfl, N0, rfl⟩
theorem d20_0 : decode jdk_68_method_71_code 0 = .ok (.getstatic 18, 3) := by decide +kernel
theorem d20_3 : decode jdk_68_method_71_code 3 = .ok (.ifCond .eq 18, 3) := by decide +kernel
theorem d20_6 : decode jdk_68_method_71_code 6 = .ok (.aload_n 0, 1) := by decide +kernel
theorem d20_7 : decode jdk_68_method_71_code 7 = .ok (.getfield 22, 3) := by decide +kernel
theorem d20_10 : decode jdk_68_method_71_code 10 = .ok (.aload_n 1, 1) := by decide +kernel
theorem d20_11 : decode jdk_68_method_71_code 11 = .ok (.invokevirtual 40, 3) := by decide +kernel
theorem d20_14 : decode jdk_68_method_71_code 14 = .ok (.if_icmp .eq 7, 3) := by decide +kernel
theorem d20_21 : decode jdk_68_method_71_code 21 = .ok (.return_, 1) := by decide +kernel
theorem pn_20 : plainName "java/lang/AbstractStringBuilder" = true := by first | (simp [plainName, overriddenIn]; done) | decide +kernel
theorem ef_rmInf (m : MethodId) (x0 : Addr) (x1 : Addr) : entryFrame m #[(.ref x0), (.ref x1)] 2 = mkF m 0 #[.val (.ref x0), .val (.ref x1)] [] := by first | (simp [entryFrame, mkF, argsToLocals, Value.category]; done) | rfl
def Q_rmInf (Z : State) (a1 : Addr) (x : Addr) (zc : Int32) (h0 : Heap) (n0 : Nat) (v : Option Value) (h : Heap) (L : List Loc) : Prop := v = none ∧ Fr n0 L ∧ h = h0
set_option maxRecDepth 65536 in
set_option maxHeartbeats 40000000 in
theorem rmInf (l : Launch) (Z : State) (a0 : Array Value) (hw : ∀ d ∈ tables_1, d.before a0 Z = true) (ws : List Jvm.Cond) (a1 : Addr) (x : Addr) (zc : Int32) (h0 : Heap) (n0 : Nat) (Z0 : n0 ≤ h0.size) (pE_a1 : Exa Z h0 a1 "java/lang/StringBuilder") (pF_coder_a1 : Fld Z h0 a1 "java/lang/AbstractStringBuilder" "coder" "B" (.int (0 : Int32))) (pE_x : Exa Z h0 x "java/lang/String") (pF_coder_x : Fld Z h0 x "java/lang/String" "coder" "B" (.int (0 : Int32))) (pS_COMPACT_STRINGS : Sta Z Z.heap "java/lang/String" "COMPACT_STRINGS" "Z" (.int zc)) (pP5 : (¬ (zc = (0 : Int32)))) (pO : Old Z n0 h0) :
    MetFree l (⟨"java/lang/AbstractStringBuilder", "inflateIfNeededFor", "(Ljava/lang/String;)V"⟩ : MethodName) (head1 (Jvm.Cond.code (⟨"java/lang/AbstractStringBuilder", "inflateIfNeededFor", "(Ljava/lang/String;)V"⟩ : MethodName) jdk_68_method_71_code 2 none :: ws) ({ frames := 1, cells := 0, slots := 0, locals := 13 } : Room)) (fun a U => a = #[(.ref a1), (.ref x)] ∧ Z.Warmed39 U.vm ∧ U.heap = h0) (fun _ _ _ _ _ => True) (fun _ U o U' => ∃ v L, o = .returned v ∧ Q_rmInf Z a1 x zc h0 n0 v U'.heap L ∧ FrameEnd U o U' L ({ frames := 1, cells := 0, slots := 0, locals := 13 } : Room).cells ({ frames := 1, cells := 0, slots := 0, locals := 13 } : Room).slots) := by
  refine MetFree.of_bodySF (plainFor_of_name pn_20) hisR ?_
  intro p e s m args below meth c s₁ Bd hml0 hP hK
  obtain ⟨rfl, hZ, hh⟩ := hP
  have hx := Bd.exec
  have hby := Bd.bytes
  have hml : c.maxLocals = 2 := hml0
  have hown : s.vm.findClass "java/lang/AbstractStringBuilder" = some m.cls := findClass_of_methodNamed Bd.named
  have hnm := (name_of_methodNamed Bd.named Bd.method).1
  have X0 : Stand p l e ({ frames := 1, cells := 0, slots := 0, locals := 13 } : Room) s m #[(.ref a1), (.ref x)] below meth c s₁ [] 0 0 := Stand.of_body Bd
  have e0 : s₁.heap = h0 := by rw [← hh, Bd.state]; rfl
  have N0 := Fr.nil n0
  refine own_enter (ef_rmInf m a1 x) ?_
  obtain ⟨T1, X1, e1, st1⟩ := getS2 X0 hx hZ hown (host := "") (Or.inl (own_w hw 77 rfl)) Via.refl e0 (pS_COMPACT_STRINGS.ext pO.2) (g := (mkF m 0 #[.val (.ref a1), .val (.ref x)] [])) rfl (hb hby d20_0)
  refine own_st st1 ?_
  show own_Go p e below T1 (mkF m 3 #[.val (.ref a1), .val (.ref x)] [(.int zc)]) _
  refine own_st (fun t_ k_ => XS.ifNo X1.here hx rfl (hb hby d20_3) rfl ((if0 _ _).trans (feq pP5).1) (XS.aloadN X1.here hx rfl (hb hby d20_6) rfl rfl k_)) ?_
  show own_Go p e below T1 (mkF m 7 #[.val (.ref a1), .val (.ref x)] [(.ref a1)]) _
  obtain ⟨T2, X2, e2, st2⟩ := getF X1 hx hZ hown (host := "") (Or.inl (own_w hw 80 rfl)) Via.refl e1 pF_coder_a1 (g := (mkF m 7 #[.val (.ref a1), .val (.ref x)] [(.ref a1)])) rfl rfl (hb hby d20_7)
  refine own_st st2 ?_
  show own_Go p e below T2 (mkF m 10 #[.val (.ref a1), .val (.ref x)] [(.int (0 : Int32))]) _
  refine own_st (fun t_ k_ => XS.aloadN X2.here hx rfl (hb hby d20_10) rfl rfl k_) ?_
  show own_Go p e below T2 (mkF m 11 #[.val (.ref a1), .val (.ref x)] [(.ref x), (.int (0 : Int32))]) _
  obtain ⟨cq3, kq3, qa3, qb3, qc3⟩ := isOf hZ e2 pE_x
  obtain ⟨_, _, ⟨T3, L3, k3, n3⟩, -, X3, ⟨Lc3, hQ3, l3, y3, z3⟩, st3⟩ := X2.virtualBack hx (y := (⟨"java/lang/String", "coder", "()B"⟩ : MethodName)) (z := (⟨"java/lang/String", "coder", "()B"⟩ : MethodName)) hown (mvT hZ (own_w hw 119 rfl)) (mvT hZ (own_w hw 98 rfl)) (notFace_of_selects (args := #[]) (mvT hZ (own_w hw 100 rfl))) (mvT hZ (own_w hw 100 rfl)) (mvT hZ (own_w hw 99 rfl)) (by decide) (backOf (W := 1) (rmCo l Z a0 hw [] x zc h0 n0 Z0 pE_x pF_coder_x pS_COMPACT_STRINGS pP5 pO) hZ (own_w hw 101 rfl) (own_w hw 11 rfl) (by decide) (by decide)) qa3 qc3 (g := (mkF m 11 #[.val (.ref a1), .val (.ref x)] [(.ref x), (.int (0 : Int32))])) rfl (by rw [hml]; rfl) (Steps.refl _) (argsL := []) (rest := [(.int (0 : Int32))]) (lenOf pd___B rfl) rfl (by show 2 * 0 + _ ≤ _; exact Nat.le_of_eq rfl) (hb hby d20_11) (fun _ _ => ⟨rfl, e2, (by decide : 0 + 0 ≤ _), (by decide : 0 + 0 ≤ _)⟩)
  dsimp only [Pt.U, Pt.locs, Pt.cells, Pt.slots] at X3 l3 y3 z3 st3 hQ3
  try dsimp only [Nat.reduceAdd] at y3 z3
  rw [l3, y3, z3] at X3
  obtain ⟨rfl, Nq3, eH3⟩ := hQ3
  have N3 := Fr.app N0 Nq3
  refine own_tr st3 ?_
  show own_Go p e below T3 (mkF m 14 #[.val (.ref a1), .val (.ref x)] [(.int (0 : Int32)), (.int (0 : Int32))]) _
  refine own_st (fun t_ k_ => XS.icmpYes X3.here hx rfl (pc0 := 14) (pc' := 21) rfl (hb hby d20_14) rfl (by decide) (by decide) (by decide) k_) ?_
  show own_Go p e below T3 (mkF m 21 #[.val (.ref a1), .val (.ref x)] []) _
  obtain ⟨fs, hr, hrun, hended, hW, hsame⟩ := X3.leave (v := none) (fun _ => rfl)
  refine own_fin (X3.returnOut hx Bd.returns (hb hby d20_21) hr) ⟨hrun, hended, _, _, rfl, ?_, ⟨_, rfl⟩, hW, hsame.mono (by decide) (by decide)⟩
  show Q_rmInf Z a1 x zc h0 n0 _ T3.heap _
  rw [eH3]
  exact ⟨rfl, N3, rfl⟩
theorem d21_0 : decode jdk_42_method_147_code 0 = .ok (.aload_n 0, 1) := by decide +kernel
theorem d21_1 : decode jdk_42_method_147_code 1 = .ok (.invokevirtual 335, 3) := by decide +kernel
theorem d21_4 : decode jdk_42_method_147_code 4 = .ok (.iload_n 3, 1) := by decide +kernel
theorem d21_5 : decode jdk_42_method_147_code 5 = .ok (.if_icmp .ne 23, 3) := by decide +kernel
theorem d21_8 : decode jdk_42_method_147_code 8 = .ok (.aload_n 0, 1) := by decide +kernel
theorem d21_9 : decode jdk_42_method_147_code 9 = .ok (.getfield 9, 3) := by decide +kernel
theorem d21_12 : decode jdk_42_method_147_code 12 = .ok (.iconst 0, 1) := by decide +kernel
theorem d21_13 : decode jdk_42_method_147_code 13 = .ok (.aload_n 1, 1) := by decide +kernel
theorem d21_14 : decode jdk_42_method_147_code 14 = .ok (.iload_n 2, 1) := by decide +kernel
theorem d21_15 : decode jdk_42_method_147_code 15 = .ok (.iload_n 3, 1) := by decide +kernel
theorem d21_16 : decode jdk_42_method_147_code 16 = .ok (.ishl, 1) := by decide +kernel
theorem d21_17 : decode jdk_42_method_147_code 17 = .ok (.aload_n 0, 1) := by decide +kernel
theorem d21_18 : decode jdk_42_method_147_code 18 = .ok (.getfield 9, 3) := by decide +kernel
theorem d21_21 : decode jdk_42_method_147_code 21 = .ok (.arraylength, 1) := by decide +kernel
theorem d21_22 : decode jdk_42_method_147_code 22 = .ok (.invokestatic 212, 3) := by decide +kernel
theorem d21_25 : decode jdk_42_method_147_code 25 = .ok (.goto 18, 3) := by decide +kernel
theorem d21_43 : decode jdk_42_method_147_code 43 = .ok (.return_, 1) := by decide +kernel
theorem pn_21 : plainName "java/lang/String" = true := by first | (simp [plainName, overriddenIn]; done) | decide +kernel
theorem ef_rmGb (m : MethodId) (x0 : Addr) (x1 : Addr) (x2 : Int32) (x3 : Int32) : entryFrame m #[(.ref x0), (.ref x1), (.int x2), (.int x3)] 4 = mkF m 0 #[.val (.ref x0), .val (.ref x1), .val (.int x2), .val (.int x3)] [] := by first | (simp [entryFrame, mkF, argsToLocals, Value.category]; done) | rfl
def Q_rmGb (Z : State) (x : Addr) (tx : Addr) (kx : ClassId) (n : Int32) (us : List Value) (zc : Int32) (va : Addr) (kva : ClassId) (cap : Int32) (k : Int32) (bs : List Value) (rest : List Value) (h0 : Heap) (n0 : Nat) (v : Option Value) (h : Heap) (L : List Loc) : Prop := v = none ∧ Fr n0 L ∧ Keep h0 h [va] ∧ Arv Z h va kva .byte cap ((bs ++ us) ++ rest.drop us.length) (.int 0)
set_option maxRecDepth 65536 in
set_option maxHeartbeats 40000000 in
theorem rmGb (l : Launch) (Z : State) (a0 : Array Value) (hw : ∀ d ∈ tables_1, d.before a0 Z = true) (ws : List Jvm.Cond) (x : Addr) (tx : Addr) (kx : ClassId) (n : Int32) (us : List Value) (zc : Int32) (va : Addr) (kva : ClassId) (cap : Int32) (k : Int32) (bs : List Value) (rest : List Value) (h0 : Heap) (n0 : Nat) (Z0 : n0 ≤ h0.size) (pE_x : Exa Z h0 x "java/lang/String") (pF_value_x : Fld Z h0 x "java/lang/String" "value" "[B" (.ref tx)) (pF_coder_x : Fld Z h0 x "java/lang/String" "coder" "B" (.int (0 : Int32))) (pV_tx : Arv Z h0 tx kx .byte n us (.int 0)) (pV_va : Arv Z h0 va kva .byte cap (bs ++ rest) (.int 0)) (hk : (k.toInt = (bs.length : Int))) (hcap : (cap.toInt = ((bs.length + rest.length : Nat) : Int))) (hn : (n.toInt = (us.length : Int))) (hfit : (us.length ≤ rest.length)) (hbig : (bs.length + rest.length ≤ 1000000)) (pG_va : n0 ≤ va) (pS_COMPACT_STRINGS : Sta Z Z.heap "java/lang/String" "COMPACT_STRINGS" "Z" (.int zc)) (pP5 : (¬ (zc = (0 : Int32)))) (pO : Old Z n0 h0) :
    MetFree l (⟨"java/lang/String", "getBytes", "([BIB)V"⟩ : MethodName) (head1 (Jvm.Cond.code (⟨"java/lang/String", "getBytes", "([BIB)V"⟩ : MethodName) jdk_42_method_147_code 4 none :: ws) ({ frames := 1, cells := 0, slots := 0, locals := 120 } : Room)) (fun a U => a = #[(.ref x), (.ref va), (.int k), (.int (0 : Int32))] ∧ Z.Warmed39 U.vm ∧ U.heap = h0) (fun _ _ _ _ _ => True) (fun _ U o U' => ∃ v L, o = .returned v ∧ Q_rmGb Z x tx kx n us zc va kva cap k bs rest h0 n0 v U'.heap L ∧ FrameEnd U o U' L ({ frames := 1, cells := 0, slots := 0, locals := 120 } : Room).cells ({ frames := 1, cells := 0, slots := 0, locals := 120 } : Room).slots) := by
  refine MetFree.of_bodySF (plainFor_of_name pn_21) hisR ?_
  intro p e s m args below meth c s₁ Bd hml0 hP hK
  obtain ⟨rfl, hZ, hh⟩ := hP
  have hx := Bd.exec
  have hby := Bd.bytes
  have hml : c.maxLocals = 4 := hml0
  have hown : s.vm.findClass "java/lang/String" = some m.cls := findClass_of_methodNamed Bd.named
  have hnm := (name_of_methodNamed Bd.named Bd.method).1
  have X0 : Stand p l e ({ frames := 1, cells := 0, slots := 0, locals := 120 } : Room) s m #[(.ref x), (.ref va), (.int k), (.int (0 : Int32))] below meth c s₁ [] 0 0 := Stand.of_body Bd
  have e0 : s₁.heap = h0 := by rw [← hh, Bd.state]; rfl
  have N0 := Fr.nil n0
  refine own_enter (ef_rmGb m x va k ((0 : Int32))) ?_
  refine own_st (fun t_ k_ => XS.aloadN X0.here hx rfl (hb hby d21_0) rfl rfl k_) ?_
  show own_Go p e below s₁ (mkF m 1 #[.val (.ref x), .val (.ref va), .val (.int k), .val (.int (0 : Int32))] [(.ref x)]) _
  obtain ⟨cq1, kq1, qa1, qb1, qc1⟩ := isOf hZ e0 pE_x
  obtain ⟨_, _, ⟨T1, L1, k1, n1⟩, -, X1, ⟨Lc1, hQ1, l1, y1, z1⟩, st1⟩ := X0.virtualBack hx (y := (⟨"java/lang/String", "coder", "()B"⟩ : MethodName)) (z := (⟨"java/lang/String", "coder", "()B"⟩ : MethodName)) hown (mvT hZ (own_w hw 97 rfl)) (mvT hZ (own_w hw 98 rfl)) (notFace_of_selects (args := #[]) (mvT hZ (own_w hw 100 rfl))) (mvT hZ (own_w hw 100 rfl)) (mvT hZ (own_w hw 99 rfl)) (by decide) (backOf (W := 0) (rmCo l Z a0 hw [] x zc h0 n0 Z0 pE_x pF_coder_x pS_COMPACT_STRINGS pP5 pO) hZ (own_w hw 101 rfl) (own_w hw 11 rfl) (by decide) (by decide)) qa1 qc1 (g := (mkF m 1 #[.val (.ref x), .val (.ref va), .val (.int k), .val (.int (0 : Int32))] [(.ref x)])) rfl (by rw [hml]; rfl) (Steps.refl _) (argsL := []) (rest := []) (lenOf pd___B rfl) rfl (by show 2 * 0 + _ ≤ _; exact Nat.le_of_eq rfl) (hb hby d21_1) (fun _ _ => ⟨rfl, e0, (by decide : 0 + 0 ≤ _), (by decide : 0 + 0 ≤ _)⟩)
  dsimp only [Pt.U, Pt.locs, Pt.cells, Pt.slots] at X1 l1 y1 z1 st1 hQ1
  try dsimp only [Nat.reduceAdd] at y1 z1
  rw [l1, y1, z1] at X1
  obtain ⟨rfl, Nq1, eH1⟩ := hQ1
  have N1 := Fr.app N0 Nq1
  refine own_tr st1 ?_
  show own_Go p e below T1 (mkF m 4 #[.val (.ref x), .val (.ref va), .val (.int k), .val (.int (0 : Int32))] [(.int (0 : Int32))]) _
  refine own_st (fun t_ k_ => XS.iloadN X1.here hx rfl (hb hby d21_4) rfl (XS.icmpNo X1.here hx rfl (hb hby d21_5) rfl (by decide) (XS.aloadN X1.here hx rfl (hb hby d21_8) rfl rfl k_))) ?_
  show own_Go p e below T1 (mkF m 9 #[.val (.ref x), .val (.ref va), .val (.int k), .val (.int (0 : Int32))] [(.ref x)]) _
  obtain ⟨T2, X2, e2, st2⟩ := getF X1 hx hZ hown (host := "") (Or.inl (own_w hw 36 rfl)) Via.refl eH1 pF_value_x (g := (mkF m 9 #[.val (.ref x), .val (.ref va), .val (.int k), .val (.int (0 : Int32))] [(.ref x)])) rfl rfl (hb hby d21_9)
  refine own_st st2 ?_
  show own_Go p e below T2 (mkF m 12 #[.val (.ref x), .val (.ref va), .val (.int k), .val (.int (0 : Int32))] [(.ref tx)]) _
  refine own_st (fun t_ k_ => XS.iconst X2.here hx rfl (hb hby d21_12) (XS.aloadN X2.here hx rfl (hb hby d21_13) rfl rfl (XS.iloadN X2.here hx rfl (hb hby d21_14) rfl (XS.iloadN X2.here hx rfl (hb hby d21_15) rfl (XS.ishl X2.here hx rfl (hb hby d21_16) rfl k_))))) ?_
  show own_Go p e below T2 (mkF m 17 #[.val (.ref x), .val (.ref va), .val (.int k), .val (.int (0 : Int32))] [(.int (k <<< ((0 : Int32) &&& 31))), (.ref va), (.int (0 : Int32)), (.ref tx)]) _
  rw [own_shl0 k]
  show own_Go p e below T2 (mkF m 17 #[.val (.ref x), .val (.ref va), .val (.int k), .val (.int (0 : Int32))] [(.int k), (.ref va), (.int (0 : Int32)), (.ref tx)]) _
  refine own_st (fun t_ k_ => XS.aloadN X2.here hx rfl (hb hby d21_17) rfl rfl k_) ?_
  show own_Go p e below T2 (mkF m 18 #[.val (.ref x), .val (.ref va), .val (.int k), .val (.int (0 : Int32))] [(.ref x), (.int k), (.ref va), (.int (0 : Int32)), (.ref tx)]) _
  obtain ⟨T3, X3, e3, st3⟩ := getF X2 hx hZ hown (host := "") (Or.inl (own_w hw 36 rfl)) Via.refl e2 pF_value_x (g := (mkF m 18 #[.val (.ref x), .val (.ref va), .val (.int k), .val (.int (0 : Int32))] [(.ref x), (.int k), (.ref va), (.int (0 : Int32)), (.ref tx)])) rfl rfl (hb hby d21_18)
  refine own_st st3 ?_
  show own_Go p e below T3 (mkF m 21 #[.val (.ref x), .val (.ref va), .val (.int k), .val (.int (0 : Int32))] [(.ref tx), (.int k), (.ref va), (.int (0 : Int32)), (.ref tx)]) _
  obtain ⟨cl4, Ar4, q4, Sz4, Nn4, Hh4, Gg4⟩ := id pV_tx
  refine own_st (fun t_ k_ => X3.arraylength hx (by rw [e3]; exact Ar4.1) (State.isArrayOf_alike hZ.alike Ar4.2.1) (g := (mkF m 21 #[.val (.ref x), .val (.ref va), .val (.int k), .val (.int (0 : Int32))] [(.ref tx), (.int k), (.ref va), (.int (0 : Int32)), (.ref tx)])) rfl rfl (hb hby d21_21) _ k_) ?_
  rw [len_of Sz4 Nn4]
  show own_Go p e below T3 (mkF m 22 #[.val (.ref x), .val (.ref va), .val (.int k), .val (.int (0 : Int32))] [(.int n), (.int k), (.ref va), (.int (0 : Int32)), (.ref tx)]) _
  obtain ⟨T5, h5, L5, X5, e5, N5, Kq5, Va5, st5⟩ := cpA X3 hx hZ hown (own_w hw 125 rfl) (own_w hw 128 rfl) (own_w hw 126 rfl) (own_w hw 127 rfl) e3 pV_tx pV_va (Or.inl ⟨rfl, rfl⟩) (sp := (0 : Int32)) (dp := k) (nn := n) (by decide) (own_nonneg hk) (own_nonneg hn) (by rw [own_clamp hn]; exact Nat.le_of_eq (Nat.zero_add _)) (by rw [own_clamp hk, own_clamp hn, own_clamp hcap]; omega) (us := us) (by have q := own_range (tl := []) (d := (.int 0)) hn; rw [List.append_nil] at q; exact q) (by rw [own_clamp hk, own_clamp hn, List.length_append]; omega) N1 pG_va (g := (mkF m 22 #[.val (.ref x), .val (.ref va), .val (.int k), .val (.int (0 : Int32))] [(.int n), (.int k), (.ref va), (.int (0 : Int32)), (.ref tx)])) rfl (by rw [hml]; rfl) (rest := []) rfl (hb hby d21_22) (by decide) (W := 0) (by show 2 * 0 + _ ≤ _; exact Nat.le_of_eq rfl) (by decide +kernel)
  rw [own_cp hk hn] at Va5
  have K6 : Keep h0 h5 [va] := (Keep.refl h0 [va]).trans Kq5 (allS (Or.inl (List.mem_of_getElem? (i := 0) rfl)) all0)
  refine own_st st5 ?_
  show own_Go p e below T5 (mkF m 25 #[.val (.ref x), .val (.ref va), .val (.int k), .val (.int (0 : Int32))] []) _
  refine own_st (fun t_ k_ => XS.goto X5.here hx rfl (pc0 := 25) (pc' := 43) rfl (hb hby d21_25) (by decide) (by decide) k_) ?_
  show own_Go p e below T5 (mkF m 43 #[.val (.ref x), .val (.ref va), .val (.int k), .val (.int (0 : Int32))] []) _
  obtain ⟨fs, hr, hrun, hended, hW, hsame⟩ := X5.leave (v := none) (fun _ => rfl)
  refine own_fin (X5.returnOut hx Bd.returns (hb hby d21_43) hr) ⟨hrun, hended, _, _, rfl, ?_, ⟨_, rfl⟩, hW, hsame.mono (by decide) (by decide)⟩
  show Q_rmGb Z x tx kx n us zc va kva cap k bs rest h0 n0 _ T5.heap _
  rw [e5]
  exact ⟨rfl, N5, K6, Va5⟩
theorem d19_0 : decode jdk_68_method_73_code 0 = .ok (.aload_n 0, 1) := by decide +kernel
theorem d19_1 : decode jdk_68_method_73_code 1 = .ok (.aload_n 2, 1) := by decide +kernel
theorem d19_2 : decode jdk_68_method_73_code 2 = .ok (.invokevirtual 397, 3) := by decide +kernel
theorem d19_5 : decode jdk_68_method_73_code 5 = .ok (.aload_n 2, 1) := by decide +kernel
theorem d19_6 : decode jdk_68_method_73_code 6 = .ok (.aload_n 0, 1) := by decide +kernel
theorem d19_7 : decode jdk_68_method_73_code 7 = .ok (.getfield 15, 3) := by decide +kernel
theorem d19_10 : decode jdk_68_method_73_code 10 = .ok (.iload_n 1, 1) := by decide +kernel
theorem d19_11 : decode jdk_68_method_73_code 11 = .ok (.aload_n 0, 1) := by decide +kernel
theorem d19_12 : decode jdk_68_method_73_code 12 = .ok (.getfield 22, 3) := by decide +kernel
theorem d19_15 : decode jdk_68_method_73_code 15 = .ok (.invokevirtual 399, 3) := by decide +kernel
theorem d19_18 : decode jdk_68_method_73_code 18 = .ok (.return_, 1) := by decide +kernel
theorem pn_19 : plainName "java/lang/AbstractStringBuilder" = true := by first | (simp [plainName, overriddenIn]; done) | decide +kernel
theorem pd__Ljava_lang_String__V : parseMethodDescriptor "(Ljava/lang/String;)V" = some ⟨[(.object "java/lang/String")], none⟩ := by decide +kernel
theorem pd___BIB_V : parseMethodDescriptor "([BIB)V" = some ⟨[(.array .byte), .int, .byte], none⟩ := by decide +kernel
theorem ef_rmPs (m : MethodId) (x0 : Addr) (x1 : Int32) (x2 : Addr) : entryFrame m #[(.ref x0), (.int x1), (.ref x2)] 3 = mkF m 0 #[.val (.ref x0), .val (.int x1), .val (.ref x2)] [] := by first | (simp [entryFrame, mkF, argsToLocals, Value.category]; done) | rfl
def Q_rmPs (Z : State) (a1 : Addr) (va : Addr) (kva : ClassId) (cap : Int32) (k : Int32) (bs : List Value) (rest : List Value) (x : Addr) (tx : Addr) (kx : ClassId) (n : Int32) (us : List Value) (zc : Int32) (h0 : Heap) (n0 : Nat) (v : Option Value) (h : Heap) (L : List Loc) : Prop := v = none ∧ Fr n0 L ∧ Keep h0 h [va] ∧ Arv Z h va kva .byte cap ((bs ++ us) ++ rest.drop us.length) (.int 0)
set_option maxRecDepth 65536 in
set_option maxHeartbeats 40000000 in
theorem rmPs (l : Launch) (Z : State) (a0 : Array Value) (hw : ∀ d ∈ tables_1, d.before a0 Z = true) (ws : List Jvm.Cond) (a1 : Addr) (va : Addr) (kva : ClassId) (cap : Int32) (k : Int32) (bs : List Value) (rest : List Value) (x : Addr) (tx : Addr) (kx : ClassId) (n : Int32) (us : List Value) (zc : Int32) (h0 : Heap) (n0 : Nat) (Z0 : n0 ≤ h0.size) (pE_a1 : Exa Z h0 a1 "java/lang/StringBuilder") (pF_value_a1 : Fld Z h0 a1 "java/lang/AbstractStringBuilder" "value" "[B" (.ref va)) (pF_coder_a1 : Fld Z h0 a1 "java/lang/AbstractStringBuilder" "coder" "B" (.int (0 : Int32))) (pE_x : Exa Z h0 x "java/lang/String") (pF_value_x : Fld Z h0 x "java/lang/String" "value" "[B" (.ref tx)) (pF_coder_x : Fld Z h0 x "java/lang/String" "coder" "B" (.int (0 : Int32))) (pV_tx : Arv Z h0 tx kx .byte n us (.int 0)) (pV_va : Arv Z h0 va kva .byte cap (bs ++ rest) (.int 0)) (hk : (k.toInt = (bs.length : Int))) (hcap : (cap.toInt = ((bs.length + rest.length : Nat) : Int))) (hn : (n.toInt = (us.length : Int))) (hfit : (us.length ≤ rest.length)) (hbig : (bs.length + rest.length ≤ 1000000)) (pG_va : n0 ≤ va) (pS_COMPACT_STRINGS : Sta Z Z.heap "java/lang/String" "COMPACT_STRINGS" "Z" (.int zc)) (pP5 : (¬ (zc = (0 : Int32)))) (pO : Old Z n0 h0) :
    MetFree l (⟨"java/lang/AbstractStringBuilder", "putStringAt", "(ILjava/lang/String;)V"⟩ : MethodName) (head1 (Jvm.Cond.code (⟨"java/lang/AbstractStringBuilder", "putStringAt", "(ILjava/lang/String;)V"⟩ : MethodName) jdk_68_method_73_code 3 none :: ws) ({ frames := 2, cells := 0, slots := 0, locals := 135 } : Room)) (fun a U => a = #[(.ref a1), (.int k), (.ref x)] ∧ Z.Warmed39 U.vm ∧ U.heap = h0) (fun _ _ _ _ _ => True) (fun _ U o U' => ∃ v L, o = .returned v ∧ Q_rmPs Z a1 va kva cap k bs rest x tx kx n us zc h0 n0 v U'.heap L ∧ FrameEnd U o U' L ({ frames := 2, cells := 0, slots := 0, locals := 135 } : Room).cells ({ frames := 2, cells := 0, slots := 0, locals := 135 } : Room).slots) := by
  refine MetFree.of_bodySF (plainFor_of_name pn_19) hisR ?_
  intro p e s m args below meth c s₁ Bd hml0 hP hK
  obtain ⟨rfl, hZ, hh⟩ := hP
  have hx := Bd.exec
  have hby := Bd.bytes
  have hml : c.maxLocals = 3 := hml0
  have hown : s.vm.findClass "java/lang/AbstractStringBuilder" = some m.cls := findClass_of_methodNamed Bd.named
  have hnm := (name_of_methodNamed Bd.named Bd.method).1
  have X0 : Stand p l e ({ frames := 2, cells := 0, slots := 0, locals := 135 } : Room) s m #[(.ref a1), (.int k), (.ref x)] below meth c s₁ [] 0 0 := Stand.of_body Bd
  have e0 : s₁.heap = h0 := by rw [← hh, Bd.state]; rfl
  have N0 := Fr.nil n0
  refine own_enter (ef_rmPs m a1 k x) ?_
  refine own_st (fun t_ k_ => XS.aloadN X0.here hx rfl (hb hby d19_0) rfl rfl (XS.aloadN X0.here hx rfl (hb hby d19_1) rfl rfl k_)) ?_
  show own_Go p e below s₁ (mkF m 2 #[.val (.ref a1), .val (.int k), .val (.ref x)] [(.ref x), (.ref a1)]) _
  obtain ⟨cq1, kq1, qa1, qb1, qc1⟩ := isOf hZ e0 pE_a1
  obtain ⟨_, _, ⟨T1, L1, k1, n1⟩, -, X1, ⟨Lc1, hQ1, l1, y1, z1⟩, st1⟩ := X0.virtualBack hx (y := (⟨"java/lang/AbstractStringBuilder", "inflateIfNeededFor", "(Ljava/lang/String;)V"⟩ : MethodName)) (z := (⟨"java/lang/AbstractStringBuilder", "inflateIfNeededFor", "(Ljava/lang/String;)V"⟩ : MethodName)) hown (mvT hZ (own_w hw 114 rfl)) (mvT hZ (own_decl (own_w hw 115 rfl) (own_w hw 118 rfl))) (notFace_of_selects (args := #[]) (mvT hZ (own_w hw 117 rfl))) (mvT hZ (own_w hw 117 rfl)) (mvT hZ (own_w hw 115 rfl)) (by decide) (backOf (W := 0) (rmInf l Z a0 hw [] a1 x zc h0 n0 Z0 pE_a1 pF_coder_a1 pE_x pF_coder_x pS_COMPACT_STRINGS pP5 pO) hZ (own_w hw 118 rfl) (own_w hw 74 rfl) (by decide) (by decide)) qa1 qc1 (g := (mkF m 2 #[.val (.ref a1), .val (.int k), .val (.ref x)] [(.ref x), (.ref a1)])) rfl (by rw [hml]; rfl) (Steps.refl _) (argsL := [(.ref x)]) (rest := []) (lenOf pd__Ljava_lang_String__V rfl) rfl (by show 2 * 0 + _ ≤ _; exact Nat.le_of_eq rfl) (hb hby d19_2) (fun _ _ => ⟨rfl, e0, (by decide : 0 + 0 ≤ _), (by decide : 0 + 0 ≤ _)⟩)
  dsimp only [Pt.U, Pt.locs, Pt.cells, Pt.slots] at X1 l1 y1 z1 st1 hQ1
  try dsimp only [Nat.reduceAdd] at y1 z1
  rw [l1, y1, z1] at X1
  obtain ⟨rfl, Nq1, eH1⟩ := hQ1
  have N1 := Fr.app N0 Nq1
  refine own_tr st1 ?_
  show own_Go p e below T1 (mkF m 5 #[.val (.ref a1), .val (.int k), .val (.ref x)] []) _
  refine own_st (fun t_ k_ => XS.aloadN X1.here hx rfl (hb hby d19_5) rfl rfl (XS.aloadN X1.here hx rfl (hb hby d19_6) rfl rfl k_)) ?_
  show own_Go p e below T1 (mkF m 7 #[.val (.ref a1), .val (.int k), .val (.ref x)] [(.ref a1), (.ref x)]) _
  obtain ⟨T2, X2, e2, st2⟩ := getF X1 hx hZ hown (host := "") (Or.inl (own_w hw 78 rfl)) Via.refl eH1 pF_value_a1 (g := (mkF m 7 #[.val (.ref a1), .val (.int k), .val (.ref x)] [(.ref a1), (.ref x)])) rfl rfl (hb hby d19_7)
  refine own_st st2 ?_
  show own_Go p e below T2 (mkF m 10 #[.val (.ref a1), .val (.int k), .val (.ref x)] [(.ref va), (.ref x)]) _
  refine own_st (fun t_ k_ => XS.iloadN X2.here hx rfl (hb hby d19_10) rfl (XS.aloadN X2.here hx rfl (hb hby d19_11) rfl rfl k_)) ?_
  show own_Go p e below T2 (mkF m 12 #[.val (.ref a1), .val (.int k), .val (.ref x)] [(.ref a1), (.int k), (.ref va), (.ref x)]) _
  obtain ⟨T3, X3, e3, st3⟩ := getF X2 hx hZ hown (host := "") (Or.inl (own_w hw 80 rfl)) Via.refl e2 pF_coder_a1 (g := (mkF m 12 #[.val (.ref a1), .val (.int k), .val (.ref x)] [(.ref a1), (.int k), (.ref va), (.ref x)])) rfl rfl (hb hby d19_12)
  refine own_st st3 ?_
  show own_Go p e below T3 (mkF m 15 #[.val (.ref a1), .val (.int k), .val (.ref x)] [(.int (0 : Int32)), (.int k), (.ref va), (.ref x)]) _
  obtain ⟨cq4, kq4, qa4, qb4, qc4⟩ := isOf hZ e3 pE_x
  obtain ⟨_, _, ⟨T4, L4, k4, n4⟩, -, X4, ⟨Lc4, hQ4, l4, y4, z4⟩, st4⟩ := X3.virtualBack hx (y := (⟨"java/lang/String", "getBytes", "([BIB)V"⟩ : MethodName)) (z := (⟨"java/lang/String", "getBytes", "([BIB)V"⟩ : MethodName)) hown (mvT hZ (own_w hw 120 rfl)) (mvT hZ (own_w hw 121 rfl)) (notFace_of_selects (args := #[]) (mvT hZ (own_w hw 123 rfl))) (mvT hZ (own_w hw 123 rfl)) (mvT hZ (own_w hw 122 rfl)) (by decide) (backOf (W := 0) (rmGb l Z a0 hw [] x tx kx n us zc va kva cap k bs rest h0 n0 Z0 pE_x pF_value_x pF_coder_x pV_tx pV_va hk hcap hn hfit hbig pG_va pS_COMPACT_STRINGS pP5 pO) hZ (own_w hw 124 rfl) (own_w hw 11 rfl) (by decide) (by decide)) qa4 qc4 (g := (mkF m 15 #[.val (.ref a1), .val (.int k), .val (.ref x)] [(.int (0 : Int32)), (.int k), (.ref va), (.ref x)])) rfl (by rw [hml]; rfl) (Steps.refl _) (argsL := [(.ref va), (.int k), (.int (0 : Int32))]) (rest := []) (lenOf pd___BIB_V rfl) rfl (by show 2 * 0 + _ ≤ _; exact Nat.le_of_eq rfl) (hb hby d19_15) (fun _ _ => ⟨rfl, e3, (by decide : 0 + 0 ≤ _), (by decide : 0 + 0 ≤ _)⟩)
  dsimp only [Pt.U, Pt.locs, Pt.cells, Pt.slots] at X4 l4 y4 z4 st4 hQ4
  try dsimp only [Nat.reduceAdd] at y4 z4
  rw [l4, y4, z4] at X4
  obtain ⟨rfl, Nq4, Kq4, q4_0⟩ := hQ4
  have N4 := Fr.app N1 Nq4
  have K5 : Keep h0 T4.heap [va] := (Keep.refl h0 [va]).trans Kq4 (allS (Or.inl (List.mem_of_getElem? (i := 0) rfl)) all0)
  refine own_tr st4 ?_
  show own_Go p e below T4 (mkF m 18 #[.val (.ref a1), .val (.int k), .val (.ref x)] []) _
  obtain ⟨fs, hr, hrun, hended, hW, hsame⟩ := X4.leave (v := none) (fun _ => rfl)
  refine own_fin (X4.returnOut hx Bd.returns (hb hby d19_18) hr) ⟨hrun, hended, _, _, rfl, ?_, ⟨_, rfl⟩, hW, hsame.mono (by decide) (by decide)⟩
  show Q_rmPs Z a1 va kva cap k bs rest x tx kx n us zc h0 n0 _ T4.heap _
  exact ⟨rfl, N4, K5, q4_0⟩
theorem d15_0 : decode jdk_68_method_22_code 0 = .ok (.aload_n 1, 1) := by decide +kernel
theorem d15_1 : decode jdk_68_method_22_code 1 = .ok (.ifnonnull 8, 3) := by decide +kernel
theorem d15_9 : decode jdk_68_method_22_code 9 = .ok (.aload_n 1, 1) := by decide +kernel
theorem d15_10 : decode jdk_68_method_22_code 10 = .ok (.invokevirtual 32, 3) := by decide +kernel
theorem d15_13 : decode jdk_68_method_22_code 13 = .ok (.istore_n 2, 1) := by decide +kernel
theorem d15_14 : decode jdk_68_method_22_code 14 = .ok (.aload_n 0, 1) := by decide +kernel
theorem d15_15 : decode jdk_68_method_22_code 15 = .ok (.aload_n 0, 1) := by decide +kernel
theorem d15_16 : decode jdk_68_method_22_code 16 = .ok (.getfield 79, 3) := by decide +kernel
theorem d15_19 : decode jdk_68_method_22_code 19 = .ok (.iload_n 2, 1) := by decide +kernel
theorem d15_20 : decode jdk_68_method_22_code 20 = .ok (.iadd, 1) := by decide +kernel
theorem d15_21 : decode jdk_68_method_22_code 21 = .ok (.invokevirtual 100, 3) := by decide +kernel
theorem d15_24 : decode jdk_68_method_22_code 24 = .ok (.aload_n 0, 1) := by decide +kernel
theorem d15_25 : decode jdk_68_method_22_code 25 = .ok (.aload_n 0, 1) := by decide +kernel
theorem d15_26 : decode jdk_68_method_22_code 26 = .ok (.getfield 79, 3) := by decide +kernel
theorem d15_29 : decode jdk_68_method_22_code 29 = .ok (.aload_n 1, 1) := by decide +kernel
theorem d15_30 : decode jdk_68_method_22_code 30 = .ok (.invokevirtual 208, 3) := by decide +kernel
theorem d15_33 : decode jdk_68_method_22_code 33 = .ok (.aload_n 0, 1) := by decide +kernel
theorem d15_34 : decode jdk_68_method_22_code 34 = .ok (.dup, 1) := by decide +kernel
theorem d15_35 : decode jdk_68_method_22_code 35 = .ok (.getfield 79, 3) := by decide +kernel
theorem d15_38 : decode jdk_68_method_22_code 38 = .ok (.iload_n 2, 1) := by decide +kernel
theorem d15_39 : decode jdk_68_method_22_code 39 = .ok (.iadd, 1) := by decide +kernel
theorem d15_40 : decode jdk_68_method_22_code 40 = .ok (.putfield 79, 3) := by decide +kernel
theorem d15_43 : decode jdk_68_method_22_code 43 = .ok (.aload_n 0, 1) := by decide +kernel
theorem d15_44 : decode jdk_68_method_22_code 44 = .ok (.areturn, 1) := by decide +kernel
theorem pn_15 : plainName "java/lang/AbstractStringBuilder" = true := by first | (simp [plainName, overriddenIn]; done) | decide +kernel
theorem pd___I : parseMethodDescriptor "()I" = some ⟨[], some .int⟩ := by decide +kernel
theorem pd__ILjava_lang_String__V : parseMethodDescriptor "(ILjava/lang/String;)V" = some ⟨[.int, (.object "java/lang/String")], none⟩ := by decide +kernel
theorem ef_rmAbA (m : MethodId) (x0 : Addr) (x1 : Addr) : entryFrame m #[(.ref x0), (.ref x1)] 3 = mkF m 0 #[.val (.ref x0), .val (.ref x1), .unset] [] := by first | (simp [entryFrame, mkF, argsToLocals, Value.category]; done) | rfl
def Q_rmAbA (Z : State) (a1 : Addr) (va : Addr) (kva : ClassId) (cap : Int32) (k : Int32) (bs : List Value) (rest : List Value) (x : Addr) (tx : Addr) (kx : ClassId) (n : Int32) (us : List Value) (zc : Int32) (h0 : Heap) (n0 : Nat) (v : Option Value) (h : Heap) (L : List Loc) : Prop := v = some (.ref a1) ∧ Fr n0 L ∧ Keep h0 h [a1, va] ∧ Exa Z h a1 "java/lang/StringBuilder" ∧ Fld Z h a1 "java/lang/AbstractStringBuilder" "value" "[B" (.ref va) ∧ Fld Z h a1 "java/lang/AbstractStringBuilder" "coder" "B" (.int (0 : Int32)) ∧ Fld Z h a1 "java/lang/AbstractStringBuilder" "count" "I" (.int (k + n)) ∧ Arv Z h va kva .byte cap ((bs ++ us) ++ rest.drop us.length) (.int 0)
set_option maxRecDepth 65536 in
set_option maxHeartbeats 40000000 in
theorem rmAbA (l : Launch) (Z : State) (a0 : Array Value) (hw : ∀ d ∈ tables_1, d.before a0 Z = true) (ws : List Jvm.Cond) (a1 : Addr) (va : Addr) (kva : ClassId) (cap : Int32) (k : Int32) (bs : List Value) (rest : List Value) (x : Addr) (tx : Addr) (kx : ClassId) (n : Int32) (us : List Value) (zc : Int32) (h0 : Heap) (n0 : Nat) (Z0 : n0 ≤ h0.size) (pE_a1 : Exa Z h0 a1 "java/lang/StringBuilder") (pF_value_a1 : Fld Z h0 a1 "java/lang/AbstractStringBuilder" "value" "[B" (.ref va)) (pF_coder_a1 : Fld Z h0 a1 "java/lang/AbstractStringBuilder" "coder" "B" (.int (0 : Int32))) (pF_count_a1 : Fld Z h0 a1 "java/lang/AbstractStringBuilder" "count" "I" (.int k)) (pV_va : Arv Z h0 va kva .byte cap (bs ++ rest) (.int 0)) (pE_x : Exa Z h0 x "java/lang/String") (pF_value_x : Fld Z h0 x "java/lang/String" "value" "[B" (.ref tx)) (pF_coder_x : Fld Z h0 x "java/lang/String" "coder" "B" (.int (0 : Int32))) (pV_tx : Arv Z h0 tx kx .byte n us (.int 0)) (hk : (k.toInt = (bs.length : Int))) (hcap : (cap.toInt = ((bs.length + rest.length : Nat) : Int))) (hn : (n.toInt = (us.length : Int))) (hfit : (us.length ≤ rest.length)) (hbig : (bs.length + rest.length ≤ 1000000)) (pG_a1 : n0 ≤ a1) (pG_va : n0 ≤ va) (pS_COMPACT_STRINGS : Sta Z Z.heap "java/lang/String" "COMPACT_STRINGS" "Z" (.int zc)) (pP5 : (¬ (zc = (0 : Int32)))) (pO : Old Z n0 h0) :
    MetFree l (⟨"java/lang/AbstractStringBuilder", "append", "(Ljava/lang/String;)Ljava/lang/AbstractStringBuilder;"⟩ : MethodName) (head1 (Jvm.Cond.code (⟨"java/lang/AbstractStringBuilder", "append", "(Ljava/lang/String;)Ljava/lang/AbstractStringBuilder;"⟩ : MethodName) jdk_68_method_22_code 3 (some (.object "java/lang/AbstractStringBuilder")) :: ws) ({ frames := 3, cells := 0, slots := 0, locals := 149 } : Room)) (fun a U => a = #[(.ref a1), (.ref x)] ∧ Z.Warmed39 U.vm ∧ U.heap = h0) (fun _ _ _ _ _ => True) (fun _ U o U' => ∃ v L, o = .returned v ∧ Q_rmAbA Z a1 va kva cap k bs rest x tx kx n us zc h0 n0 v U'.heap L ∧ FrameEnd U o U' L ({ frames := 3, cells := 0, slots := 0, locals := 149 } : Room).cells ({ frames := 3, cells := 0, slots := 0, locals := 149 } : Room).slots) := by
  refine MetFree.of_bodySF (plainFor_of_name pn_15) hisR ?_
  intro p e s m args below meth c s₁ Bd hml0 hP hK
  obtain ⟨rfl, hZ, hh⟩ := hP
  have hx := Bd.exec
  have hby := Bd.bytes
  have hml : c.maxLocals = 3 := hml0
  have hown : s.vm.findClass "java/lang/AbstractStringBuilder" = some m.cls := findClass_of_methodNamed Bd.named
  have hnm := (name_of_methodNamed Bd.named Bd.method).1
  have X0 : Stand p l e ({ frames := 3, cells := 0, slots := 0, locals := 149 } : Room) s m #[(.ref a1), (.ref x)] below meth c s₁ [] 0 0 := Stand.of_body Bd
  have e0 : s₁.heap = h0 := by rw [← hh, Bd.state]; rfl
  have N0 := Fr.nil n0
  refine own_enter (ef_rmAbA m a1 x) ?_
  have hkn := own_addI hk hn (by omega)
  refine own_st (fun t_ k_ => XS.aloadN X0.here hx rfl (hb hby d15_0) rfl rfl (XS.ifnonnullYes X0.here hx rfl (pc0 := 1) (pc' := 9) rfl (hb hby d15_1) rfl (by decide) (by decide) (XS.aloadN X0.here hx rfl (hb hby d15_9) rfl rfl k_))) ?_
  show own_Go p e below s₁ (mkF m 10 #[.val (.ref a1), .val (.ref x), .unset] [(.ref x)]) _
  obtain ⟨cq1, kq1, qa1, qb1, qc1⟩ := isOf hZ e0 pE_x
  obtain ⟨_, _, ⟨T1, L1, k1, n1⟩, -, X1, ⟨Lc1, hQ1, l1, y1, z1⟩, st1⟩ := X0.virtualBack hx (y := (⟨"java/lang/String", "length", "()I"⟩ : MethodName)) (z := (⟨"java/lang/String", "length", "()I"⟩ : MethodName)) hown (mvT hZ (own_w hw 92 rfl)) (mvT hZ (own_w hw 93 rfl)) (notFace_of_selects (args := #[]) (mvT hZ (own_w hw 95 rfl))) (mvT hZ (own_w hw 95 rfl)) (mvT hZ (own_w hw 94 rfl)) (by decide) (backOf (W := 0) (rmLe l Z a0 hw [] x tx kx n us zc h0 n0 Z0 pE_x pF_value_x pF_coder_x pV_tx pS_COMPACT_STRINGS pP5 pO) hZ (own_w hw 96 rfl) (own_w hw 11 rfl) (by decide) (by decide)) qa1 qc1 (g := (mkF m 10 #[.val (.ref a1), .val (.ref x), .unset] [(.ref x)])) rfl (by rw [hml]; rfl) (Steps.refl _) (argsL := []) (rest := []) (lenOf pd___I rfl) rfl (by show 2 * 0 + _ ≤ _; exact Nat.le_of_eq rfl) (hb hby d15_10) (fun _ _ => ⟨rfl, e0, (by decide : 0 + 0 ≤ _), (by decide : 0 + 0 ≤ _)⟩)
  dsimp only [Pt.U, Pt.locs, Pt.cells, Pt.slots] at X1 l1 y1 z1 st1 hQ1
  try dsimp only [Nat.reduceAdd] at y1 z1
  rw [l1, y1, z1] at X1
  obtain ⟨rfl, Nq1, eH1⟩ := hQ1
  have N1 := Fr.app N0 Nq1
  refine own_tr st1 ?_
  show own_Go p e below T1 (mkF m 13 #[.val (.ref a1), .val (.ref x), .unset] [(.int n)]) _
  refine own_st (fun t_ k_ => XS.istoreN X1.here hx rfl (hb hby d15_13) rfl (l' := #[.val (.ref a1), .val (.ref x), .val (.int n)]) rfl (XS.aloadN X1.here hx rfl (hb hby d15_14) rfl rfl (XS.aloadN X1.here hx rfl (hb hby d15_15) rfl rfl k_))) ?_
  show own_Go p e below T1 (mkF m 16 #[.val (.ref a1), .val (.ref x), .val (.int n)] [(.ref a1), (.ref a1)]) _
  obtain ⟨T2, X2, e2, st2⟩ := getF X1 hx hZ hown (host := "") (Or.inl (own_w hw 102 rfl)) Via.refl eH1 pF_count_a1 (g := (mkF m 16 #[.val (.ref a1), .val (.ref x), .val (.int n)] [(.ref a1), (.ref a1)])) rfl rfl (hb hby d15_16)
  refine own_st st2 ?_
  show own_Go p e below T2 (mkF m 19 #[.val (.ref a1), .val (.ref x), .val (.int n)] [(.int k), (.ref a1)]) _
  refine own_st (fun t_ k_ => XS.iloadN X2.here hx rfl (hb hby d15_19) rfl (XS.iadd X2.here hx rfl (hb hby d15_20) rfl k_)) ?_
  show own_Go p e below T2 (mkF m 21 #[.val (.ref a1), .val (.ref x), .val (.int n)] [(.int (k + n)), (.ref a1)]) _
  obtain ⟨cq3, kq3, qa3, qb3, qc3⟩ := isOf hZ e2 pE_a1
  obtain ⟨_, _, ⟨T3, L3, k3, n3⟩, -, X3, ⟨Lc3, hQ3, l3, y3, z3⟩, st3⟩ := X2.virtualBack hx (y := (⟨"java/lang/AbstractStringBuilder", "ensureCapacityInternal", "(I)V"⟩ : MethodName)) (z := (⟨"java/lang/AbstractStringBuilder", "ensureCapacityInternal", "(I)V"⟩ : MethodName)) hown (mvT hZ (own_w hw 104 rfl)) (mvT hZ (own_decl (own_w hw 105 rfl) (own_w hw 108 rfl))) (notFace_of_selects (args := #[]) (mvT hZ (own_w hw 107 rfl))) (mvT hZ (own_w hw 107 rfl)) (mvT hZ (own_w hw 105 rfl)) (by decide) (backOf (W := 0) (rmEc l Z a0 hw [] a1 va kva cap ((bs ++ rest)) ((k + n)) h0 n0 Z0 pE_a1 pF_value_a1 pF_coder_a1 pV_va (own_subNP (by omega) (by omega) (by omega))) hZ (own_w hw 108 rfl) (own_w hw 74 rfl) (by decide) (by decide)) qa3 qc3 (g := (mkF m 21 #[.val (.ref a1), .val (.ref x), .val (.int n)] [(.int (k + n)), (.ref a1)])) rfl (by rw [hml]; rfl) (Steps.refl _) (argsL := [(.int (k + n))]) (rest := []) (lenOf pd__I_V rfl) rfl (by show 2 * 0 + _ ≤ _; exact Nat.le_of_eq rfl) (hb hby d15_21) (fun _ _ => ⟨rfl, e2, (by decide : 0 + 0 ≤ _), (by decide : 0 + 0 ≤ _)⟩)
  dsimp only [Pt.U, Pt.locs, Pt.cells, Pt.slots] at X3 l3 y3 z3 st3 hQ3
  try dsimp only [Nat.reduceAdd] at y3 z3
  rw [l3, y3, z3] at X3
  obtain ⟨rfl, Nq3, eH3⟩ := hQ3
  have N3 := Fr.app N1 Nq3
  refine own_tr st3 ?_
  show own_Go p e below T3 (mkF m 24 #[.val (.ref a1), .val (.ref x), .val (.int n)] []) _
  refine own_st (fun t_ k_ => XS.aloadN X3.here hx rfl (hb hby d15_24) rfl rfl (XS.aloadN X3.here hx rfl (hb hby d15_25) rfl rfl k_)) ?_
  show own_Go p e below T3 (mkF m 26 #[.val (.ref a1), .val (.ref x), .val (.int n)] [(.ref a1), (.ref a1)]) _
  obtain ⟨T4, X4, e4, st4⟩ := getF X3 hx hZ hown (host := "") (Or.inl (own_w hw 102 rfl)) Via.refl eH3 pF_count_a1 (g := (mkF m 26 #[.val (.ref a1), .val (.ref x), .val (.int n)] [(.ref a1), (.ref a1)])) rfl rfl (hb hby d15_26)
  refine own_st st4 ?_
  show own_Go p e below T4 (mkF m 29 #[.val (.ref a1), .val (.ref x), .val (.int n)] [(.int k), (.ref a1)]) _
  refine own_st (fun t_ k_ => XS.aloadN X4.here hx rfl (hb hby d15_29) rfl rfl k_) ?_
  show own_Go p e below T4 (mkF m 30 #[.val (.ref a1), .val (.ref x), .val (.int n)] [(.ref x), (.int k), (.ref a1)]) _
  obtain ⟨cq5, kq5, qa5, qb5, qc5⟩ := isOf hZ e4 pE_a1
  obtain ⟨_, _, ⟨T5, L5, k5, n5⟩, -, X5, ⟨Lc5, hQ5, l5, y5, z5⟩, st5⟩ := X4.virtualBack hx (y := (⟨"java/lang/AbstractStringBuilder", "putStringAt", "(ILjava/lang/String;)V"⟩ : MethodName)) (z := (⟨"java/lang/AbstractStringBuilder", "putStringAt", "(ILjava/lang/String;)V"⟩ : MethodName)) hown (mvT hZ (own_w hw 109 rfl)) (mvT hZ (own_decl (own_w hw 110 rfl) (own_w hw 113 rfl))) (notFace_of_selects (args := #[]) (mvT hZ (own_w hw 112 rfl))) (mvT hZ (own_w hw 112 rfl)) (mvT hZ (own_w hw 110 rfl)) (by decide) (backOf (W := 0) (rmPs l Z a0 hw [] a1 va kva cap k bs rest x tx kx n us zc h0 n0 Z0 pE_a1 pF_value_a1 pF_coder_a1 pE_x pF_value_x pF_coder_x pV_tx pV_va hk hcap hn hfit hbig pG_va pS_COMPACT_STRINGS pP5 pO) hZ (own_w hw 113 rfl) (own_w hw 74 rfl) (by decide) (by decide)) qa5 qc5 (g := (mkF m 30 #[.val (.ref a1), .val (.ref x), .val (.int n)] [(.ref x), (.int k), (.ref a1)])) rfl (by rw [hml]; rfl) (Steps.refl _) (argsL := [(.int k), (.ref x)]) (rest := []) (lenOf pd__ILjava_lang_String__V rfl) rfl (by show 2 * 0 + _ ≤ _; exact Nat.le_of_eq rfl) (hb hby d15_30) (fun _ _ => ⟨rfl, e4, (by decide : 0 + 0 ≤ _), (by decide : 0 + 0 ≤ _)⟩)
  dsimp only [Pt.U, Pt.locs, Pt.cells, Pt.slots] at X5 l5 y5 z5 st5 hQ5
  try dsimp only [Nat.reduceAdd] at y5 z5
  rw [l5, y5, z5] at X5
  obtain ⟨rfl, Nq5, Kq5, q5_0⟩ := hQ5
  have N5 := Fr.app N3 Nq5
  have K6 : Keep h0 T5.heap [a1, va] := (Keep.refl h0 [a1, va]).trans Kq5 (allS (Or.inl (List.mem_of_getElem? (i := 1) rfl)) all0)
  refine own_tr st5 ?_
  show own_Go p e below T5 (mkF m 33 #[.val (.ref a1), .val (.ref x), .val (.int n)] []) _
  refine own_st (fun t_ k_ => XS.aloadN X5.here hx rfl (hb hby d15_33) rfl rfl (XS.dup X5.here hx rfl (hb hby d15_34) rfl rfl k_)) ?_
  show own_Go p e below T5 (mkF m 35 #[.val (.ref a1), .val (.ref x), .val (.int n)] [(.ref a1), (.ref a1)]) _
  have f7 := (pF_count_a1.keep Kq5 (ninS (Exa.neArv (pE_a1.keep Kq5) q5_0 (own_w hw 65 rfl)) nin0))
  obtain ⟨T8, X8, e8, st8⟩ := getF X5 hx hZ hown (host := "") (Or.inl (own_w hw 102 rfl)) Via.refl rfl f7 (g := (mkF m 35 #[.val (.ref a1), .val (.ref x), .val (.int n)] [(.ref a1), (.ref a1)])) rfl rfl (hb hby d15_35)
  refine own_st st8 ?_
  show own_Go p e below T8 (mkF m 38 #[.val (.ref a1), .val (.ref x), .val (.int n)] [(.int k), (.ref a1)]) _
  refine own_st (fun t_ k_ => XS.iloadN X8.here hx rfl (hb hby d15_38) rfl (XS.iadd X8.here hx rfl (hb hby d15_39) rfl k_)) ?_
  show own_Go p e below T8 (mkF m 40 #[.val (.ref a1), .val (.ref x), .val (.int n)] [(.int (k + n)), (.ref a1)]) _
  have f9 := (pE_a1.keep Kq5)
  obtain ⟨T10, h10, X10, e10, W10, st10⟩ := putF X8 hx hZ hown (host := "") (Or.inl (own_w hw 102 rfl)) Via.refl e8 f7 f9 (Or.inl (own_w hw 103 rfl)) (own_w hw 65 rfl) (ty := .int) (by decide) rfl rfl (g := (mkF m 40 #[.val (.ref a1), .val (.ref x), .val (.int n)] [(.int (k + n)), (.ref a1)])) rfl rfl (hb hby d15_40)
  have F10 := f7.same W10
  have K11 : Keep h0 h10 [a1, va] := K6.wr W10 (Or.inl (List.mem_of_getElem? (i := 0) rfl))
  have N10 := Fr.snoc X10 N5 pG_a1
  refine own_st st10 ?_
  show own_Go p e below T10 (mkF m 43 #[.val (.ref a1), .val (.ref x), .val (.int n)] []) _
  refine own_st (fun t_ k_ => XS.aloadN X10.here hx rfl (hb hby d15_43) rfl rfl k_) ?_
  show own_Go p e below T10 (mkF m 44 #[.val (.ref a1), .val (.ref x), .val (.int n)] [(.ref a1)]) _
  have f12 := (f9.wr W10)
  have f13 := ((pF_value_a1.keep Kq5 (ninS (Exa.neArv f9 q5_0 (own_w hw 65 rfl)) nin0)).other W10 (Or.inr (slot_ne (Or.inl (own_w hw 79 rfl)) (Or.inl (own_w hw 103 rfl)) (by decide) (t := (.array .byte)) (t' := .int) (by decide) (by decide))))
  have f14 := ((pF_coder_a1.keep Kq5 (ninS (Exa.neArv f9 q5_0 (own_w hw 65 rfl)) nin0)).other W10 (Or.inr (slot_ne (Or.inl (own_w hw 81 rfl)) (Or.inl (own_w hw 103 rfl)) (by decide) (t := .byte) (t' := .int) (by decide) (by decide))))
  have f15 := (q5_0.other W10 (Ne.symm (Exa.neArv f9 q5_0 (own_w hw 65 rfl))))
  obtain ⟨fs, hr, hrun, hended, hW, hsame⟩ := X10.leave (v := some (.ref a1)) (fun h => by rw [Bd.returns] at h; cases h)
  refine own_fin (own_retR X10 hx rfl Bd.returns rfl (hb hby d15_44) hr) ⟨hrun, hended, _, _, rfl, ?_, ⟨_, rfl⟩, hW, hsame.mono (by decide) (by decide)⟩
  show Q_rmAbA Z a1 va kva cap k bs rest x tx kx n us zc h0 n0 _ T10.heap _
  rw [e10]
  exact ⟨rfl, N10, K11, f12, f13, f14, F10, f15⟩
theorem d14_0 : decode jdk_67_method_7_code 0 = .ok (.aload_n 0, 1) := by decide +kernel
theorem d14_1 : decode jdk_67_method_7_code 1 = .ok (.aload_n 1, 1) := by decide +kernel
theorem d14_2 : decode jdk_67_method_7_code 2 = .ok (.invokespecial 29, 3) := by decide +kernel
theorem d14_5 : decode jdk_67_method_7_code 5 = .ok (.pop, 1) := by decide +kernel
theorem d14_6 : decode jdk_67_method_7_code 6 = .ok (.aload_n 0, 1) := by decide +kernel
theorem d14_7 : decode jdk_67_method_7_code 7 = .ok (.areturn, 1) := by decide +kernel
theorem pn_14 : plainName "java/lang/StringBuilder" = true := by first | (simp [plainName, overriddenIn]; done) | decide +kernel
theorem pd__Ljava_lang_String__Ljava_lang_AbstractStringBuilder_ : parseMethodDescriptor "(Ljava/lang/String;)Ljava/lang/AbstractStringBuilder;" = some ⟨[(.object "java/lang/String")], some (.object "java/lang/AbstractStringBuilder")⟩ := by decide +kernel
theorem ef_rmSbA (m : MethodId) (x0 : Addr) (x1 : Addr) : entryFrame m #[(.ref x0), (.ref x1)] 2 = mkF m 0 #[.val (.ref x0), .val (.ref x1)] [] := by first | (simp [entryFrame, mkF, argsToLocals, Value.category]; done) | rfl
def Q_rmSbA (Z : State) (a1 : Addr) (va : Addr) (kva : ClassId) (cap : Int32) (k : Int32) (bs : List Value) (rest : List Value) (x : Addr) (tx : Addr) (kx : ClassId) (n : Int32) (us : List Value) (zc : Int32) (h0 : Heap) (n0 : Nat) (v : Option Value) (h : Heap) (L : List Loc) : Prop := v = some (.ref a1) ∧ Fr n0 L ∧ Keep h0 h [a1, va] ∧ Exa Z h a1 "java/lang/StringBuilder" ∧ Fld Z h a1 "java/lang/AbstractStringBuilder" "value" "[B" (.ref va) ∧ Fld Z h a1 "java/lang/AbstractStringBuilder" "coder" "B" (.int (0 : Int32)) ∧ Fld Z h a1 "java/lang/AbstractStringBuilder" "count" "I" (.int (k + n)) ∧ Arv Z h va kva .byte cap ((bs ++ us) ++ rest.drop us.length) (.int 0)
set_option maxRecDepth 65536 in
set_option maxHeartbeats 40000000 in
theorem rmSbA (l : Launch) (Z : State) (a0 : Array Value) (hw : ∀ d ∈ tables_1, d.before a0 Z = true) (ws : List Jvm.Cond) (a1 : Addr) (va : Addr) (kva : ClassId) (cap : Int32) (k : Int32) (bs : List Value) (rest : List Value) (x : Addr) (tx : Addr) (kx : ClassId) (n : Int32) (us : List Value) (zc : Int32) (h0 : Heap) (n0 : Nat) (Z0 : n0 ≤ h0.size) (pE_a1 : Exa Z h0 a1 "java/lang/StringBuilder") (pF_value_a1 : Fld Z h0 a1 "java/lang/AbstractStringBuilder" "value" "[B" (.ref va)) (pF_coder_a1 : Fld Z h0 a1 "java/lang/AbstractStringBuilder" "coder" "B" (.int (0 : Int32))) (pF_count_a1 : Fld Z h0 a1 "java/lang/AbstractStringBuilder" "count" "I" (.int k)) (pV_va : Arv Z h0 va kva .byte cap (bs ++ rest) (.int 0)) (pE_x : Exa Z h0 x "java/lang/String") (pF_value_x : Fld Z h0 x "java/lang/String" "value" "[B" (.ref tx)) (pF_coder_x : Fld Z h0 x "java/lang/String" "coder" "B" (.int (0 : Int32))) (pV_tx : Arv Z h0 tx kx .byte n us (.int 0)) (hk : (k.toInt = (bs.length : Int))) (hcap : (cap.toInt = ((bs.length + rest.length : Nat) : Int))) (hn : (n.toInt = (us.length : Int))) (hfit : (us.length ≤ rest.length)) (hbig : (bs.length + rest.length ≤ 1000000)) (pG_a1 : n0 ≤ a1) (pG_va : n0 ≤ va) (pS_COMPACT_STRINGS : Sta Z Z.heap "java/lang/String" "COMPACT_STRINGS" "Z" (.int zc)) (pP5 : (¬ (zc = (0 : Int32)))) (pO : Old Z n0 h0) :
    MetFree l (⟨"java/lang/StringBuilder", "append", "(Ljava/lang/String;)Ljava/lang/StringBuilder;"⟩ : MethodName) (head1 (Jvm.Cond.code (⟨"java/lang/StringBuilder", "append", "(Ljava/lang/String;)Ljava/lang/StringBuilder;"⟩ : MethodName) jdk_67_method_7_code 2 (some (.object "java/lang/StringBuilder")) :: ws) ({ frames := 4, cells := 0, slots := 0, locals := 163 } : Room)) (fun a U => a = #[(.ref a1), (.ref x)] ∧ Z.Warmed39 U.vm ∧ U.heap = h0) (fun _ _ _ _ _ => True) (fun _ U o U' => ∃ v L, o = .returned v ∧ Q_rmSbA Z a1 va kva cap k bs rest x tx kx n us zc h0 n0 v U'.heap L ∧ FrameEnd U o U' L ({ frames := 4, cells := 0, slots := 0, locals := 163 } : Room).cells ({ frames := 4, cells := 0, slots := 0, locals := 163 } : Room).slots) := by
  refine MetFree.of_bodySF (plainFor_of_name pn_14) hisR ?_
  intro p e s m args below meth c s₁ Bd hml0 hP hK
  obtain ⟨rfl, hZ, hh⟩ := hP
  have hx := Bd.exec
  have hby := Bd.bytes
  have hml : c.maxLocals = 2 := hml0
  have hown : s.vm.findClass "java/lang/StringBuilder" = some m.cls := findClass_of_methodNamed Bd.named
  have hnm := (name_of_methodNamed Bd.named Bd.method).1
  have X0 : Stand p l e ({ frames := 4, cells := 0, slots := 0, locals := 163 } : Room) s m #[(.ref a1), (.ref x)] below meth c s₁ [] 0 0 := Stand.of_body Bd
  have e0 : s₁.heap = h0 := by rw [← hh, Bd.state]; rfl
  have N0 := Fr.nil n0
  refine own_enter (ef_rmSbA m a1 x) ?_
  refine own_st (fun t_ k_ => XS.aloadN X0.here hx rfl (hb hby d14_0) rfl rfl (XS.aloadN X0.here hx rfl (hb hby d14_1) rfl rfl k_)) ?_
  show own_Go p e below s₁ (mkF m 2 #[.val (.ref a1), .val (.ref x)] [(.ref x), (.ref a1)]) _
  obtain ⟨_, _, ⟨T1, L1, k1, n1⟩, -, X1, ⟨Lc1, hQ1, l1, y1, z1⟩, st1⟩ := superBack X0 hx hZ (y := (⟨"java/lang/AbstractStringBuilder", "append", "(Ljava/lang/String;)Ljava/lang/AbstractStringBuilder;"⟩ : MethodName)) hown (own_w hw 87 rfl) (own_same (y := (⟨"java/lang/AbstractStringBuilder", "append", "(Ljava/lang/String;)Ljava/lang/AbstractStringBuilder;"⟩ : MethodName)) (y' := (⟨"java/lang/AbstractStringBuilder", "getValue", "()[B"⟩ : MethodName)) (own_w hw 90 rfl) (own_w hw 146 rfl) rfl (by decide)) (own_w hw 88 rfl) (own_w hw 89 rfl) (by decide) (backOf (W := 0) (rmAbA l Z a0 hw [] a1 va kva cap k bs rest x tx kx n us zc h0 n0 Z0 pE_a1 pF_value_a1 pF_coder_a1 pF_count_a1 pV_va pE_x pF_value_x pF_coder_x pV_tx hk hcap hn hfit hbig pG_a1 pG_va pS_COMPACT_STRINGS pP5 pO) hZ (own_w hw 91 rfl) (own_w hw 74 rfl) (by decide) (by decide)) e0 (Ins.self pE_a1) (g := (mkF m 2 #[.val (.ref a1), .val (.ref x)] [(.ref x), (.ref a1)])) rfl (by rw [hml]; rfl) (own_w hw 91 rfl) (argsL := [(.ref x)]) (rest := []) (lenOf pd__Ljava_lang_String__Ljava_lang_AbstractStringBuilder_ rfl) rfl (by show 2 * 0 + _ ≤ _; exact Nat.le_of_eq rfl) (hb hby d14_2) (fun _ _ => ⟨rfl, e0, (by decide : 0 + 0 ≤ _), (by decide : 0 + 0 ≤ _)⟩)
  dsimp only [Pt.U, Pt.locs, Pt.cells, Pt.slots] at X1 l1 y1 z1 st1 hQ1
  try dsimp only [Nat.reduceAdd] at y1 z1
  rw [l1, y1, z1] at X1
  obtain ⟨rfl, Nq1, Kq1, q1_0, q1_1, q1_2, q1_3, q1_4⟩ := hQ1
  have N1 := Fr.app N0 Nq1
  have K2 : Keep h0 T1.heap [a1, va] := (Keep.refl h0 [a1, va]).trans Kq1 (allS (Or.inl (List.mem_of_getElem? (i := 0) rfl)) (allS (Or.inl (List.mem_of_getElem? (i := 1) rfl)) all0))
  refine own_tr st1 ?_
  show own_Go p e below T1 (mkF m 5 #[.val (.ref a1), .val (.ref x)] [(.ref a1)]) _
  refine own_st (fun t_ k_ => XS.pop X1.here hx rfl (hb hby d14_5) rfl rfl (XS.aloadN X1.here hx rfl (hb hby d14_6) rfl rfl k_)) ?_
  show own_Go p e below T1 (mkF m 7 #[.val (.ref a1), .val (.ref x)] [(.ref a1)]) _
  obtain ⟨fs, hr, hrun, hended, hW, hsame⟩ := X1.leave (v := some (.ref a1)) (fun h => by rw [Bd.returns] at h; cases h)
  refine own_fin (own_retR X1 hx rfl Bd.returns rfl (hb hby d14_7) hr) ⟨hrun, hended, _, _, rfl, ?_, ⟨_, rfl⟩, hW, hsame.mono (by decide) (by decide)⟩
  show Q_rmSbA Z a1 va kva cap k bs rest x tx kx n us zc h0 n0 _ T1.heap _
  exact ⟨rfl, N1, K2, q1_0, q1_1, q1_2, q1_3, q1_4⟩
theorem d1_0 : decode jdk_29_method_69_code 0 = .ok (.iload_n 0, 1) := by decide +kernel
theorem d1_1 : decode jdk_29_method_69_code 1 = .ok (.iload_n 1, 1) := by decide +kernel
theorem d1_2 : decode jdk_29_method_69_code 2 = .ok (.if_icmp .gt 7, 3) := by decide +kernel
theorem d1_9 : decode jdk_29_method_69_code 9 = .ok (.iload_n 1, 1) := by decide +kernel
theorem d1_10 : decode jdk_29_method_69_code 10 = .ok (.ireturn, 1) := by decide +kernel
theorem ef_rmMb (m : MethodId) (x0 : Int32) (x1 : Int32) : entryFrame m #[(.int x0), (.int x1)] 2 = mkF m 0 #[.val (.int x0), .val (.int x1)] [] := by first | (simp [entryFrame, mkF, argsToLocals, Value.category]; done) | rfl
def Q_rmMb (Z : State) (a_ : Int32) (b_ : Int32) (h0 : Heap) (n0 : Nat) (v : Option Value) (h : Heap) (L : List Loc) : Prop := v = some (.int b_) ∧ Fr n0 L ∧ h = h0
set_option maxRecDepth 65536 in
set_option maxHeartbeats 40000000 in
theorem rmMb (l : Launch) (Z : State) (a0 : Array Value) (hw : ∀ d ∈ tables_1, d.before a0 Z = true) (ws : List Jvm.Cond) (a_ : Int32) (b_ : Int32) (h0 : Heap) (n0 : Nat) (Z0 : n0 ≤ h0.size) (h : (b_ < a_)) :
    MetFree l (⟨"java/lang/Math", "min", "(II)I"⟩ : MethodName) (head1 (Jvm.Cond.code (⟨"java/lang/Math", "min", "(II)I"⟩ : MethodName) jdk_29_method_69_code 2 (some .int) :: ws) ({ frames := 0, cells := 0, slots := 0, locals := 0 } : Room)) (fun a U => a = #[(.int a_), (.int b_)] ∧ Z.Warmed39 U.vm ∧ U.heap = h0) (fun _ _ _ _ _ => True) (fun _ U o U' => ∃ v L, o = .returned v ∧ Q_rmMb Z a_ b_ h0 n0 v U'.heap L ∧ FrameEnd U o U' L ({ frames := 0, cells := 0, slots := 0, locals := 0 } : Room).cells ({ frames := 0, cells := 0, slots := 0, locals := 0 } : Room).slots) := by
  refine MetFree.of_bodySF (Jvm.Free.JP.mathPlain rfl (by decide +kernel)) hisR ?_
  intro p e s m args below meth c s₁ Bd hml0 hP hK
  obtain ⟨rfl, hZ, hh⟩ := hP
  have hx := Bd.exec
  have hby := Bd.bytes
  have hml : c.maxLocals = 2 := hml0
  have hown : s.vm.findClass "java/lang/Math" = some m.cls := findClass_of_methodNamed Bd.named
  have hnm := (name_of_methodNamed Bd.named Bd.method).1
  have X0 : Stand p l e ({ frames := 0, cells := 0, slots := 0, locals := 0 } : Room) s m #[(.int a_), (.int b_)] below meth c s₁ [] 0 0 := Stand.of_body Bd
  have e0 : s₁.heap = h0 := by rw [← hh, Bd.state]; rfl
  have N0 := Fr.nil n0
  refine own_enter (ef_rmMb m a_ b_) ?_
  refine own_st (fun t_ k_ => XS.iloadN X0.here hx rfl (hb hby d1_0) rfl (XS.iloadN X0.here hx rfl (hb hby d1_1) rfl (XS.icmpYes X0.here hx rfl (pc0 := 2) (pc' := 9) rfl (hb hby d1_2) rfl (tlt h).2.2.1 (by decide) (by decide) (XS.iloadN X0.here hx rfl (hb hby d1_9) rfl k_)))) ?_
  show own_Go p e below s₁ (mkF m 10 #[.val (.int a_), .val (.int b_)] [(.int b_)]) _
  obtain ⟨fs, hr, hrun, hended, hW, hsame⟩ := X0.leave (v := some (.int b_)) (fun h => by rw [Bd.returns] at h; cases h)
  refine own_fin (own_retI X0 hx Bd.returns (hb hby d1_10) hr) ⟨hrun, hended, _, _, rfl, ?_, ⟨_, rfl⟩, hW, hsame.mono (by decide) (by decide)⟩
  show Q_rmMb Z a_ b_ h0 n0 _ s₁.heap _
  rw [e0]
  exact ⟨rfl, N0, rfl⟩
theorem d31_0 : decode jdk_65_method_131_code 0 = .ok (.iload_n 1, 1) := by decide +kernel
theorem d31_1 : decode jdk_65_method_131_code 1 = .ok (.iload_n 0, 1) := by decide +kernel
theorem d31_2 : decode jdk_65_method_131_code 2 = .ok (.if_icmp .ge 35, 3) := by decide +kernel
theorem d31_37 : decode jdk_65_method_131_code 37 = .ok (.return_, 1) := by decide +kernel
theorem pn_31 : plainName "java/util/Arrays" = true := by first | (simp [plainName, overriddenIn]; done) | decide +kernel
theorem ef_rmCl (m : MethodId) (x0 : Int32) (x1 : Int32) : entryFrame m #[(.int x0), (.int x1)] 2 = mkF m 0 #[.val (.int x0), .val (.int x1)] [] := by first | (simp [entryFrame, mkF, argsToLocals, Value.category]; done) | rfl
def Q_rmCl (Z : State) (a_ : Int32) (e_ : Int32) (h0 : Heap) (n0 : Nat) (v : Option Value) (h : Heap) (L : List Loc) : Prop := v = none ∧ Fr n0 L ∧ h = h0
set_option maxRecDepth 65536 in
set_option maxHeartbeats 40000000 in
theorem rmCl (l : Launch) (Z : State) (a0 : Array Value) (hw : ∀ d ∈ tables_1, d.before a0 Z = true) (ws : List Jvm.Cond) (a_ : Int32) (e_ : Int32) (h0 : Heap) (n0 : Nat) (Z0 : n0 ≤ h0.size) (hea : (¬ (e_ < a_))) :
    MetFree l (⟨"java/util/Arrays", "checkLength", "(II)V"⟩ : MethodName) (head1 (Jvm.Cond.code (⟨"java/util/Arrays", "checkLength", "(II)V"⟩ : MethodName) jdk_65_method_131_code 2 none :: ws) ({ frames := 0, cells := 0, slots := 0, locals := 0 } : Room)) (fun a U => a = #[(.int a_), (.int e_)] ∧ Z.Warmed39 U.vm ∧ U.heap = h0) (fun _ _ _ _ _ => True) (fun _ U o U' => ∃ v L, o = .returned v ∧ Q_rmCl Z a_ e_ h0 n0 v U'.heap L ∧ FrameEnd U o U' L ({ frames := 0, cells := 0, slots := 0, locals := 0 } : Room).cells ({ frames := 0, cells := 0, slots := 0, locals := 0 } : Room).slots) := by
  refine MetFree.of_bodySF (plainFor_of_name pn_31) hisR ?_
  intro p e s m args below meth c s₁ Bd hml0 hP hK
  obtain ⟨rfl, hZ, hh⟩ := hP
  have hx := Bd.exec
  have hby := Bd.bytes
  have hml : c.maxLocals = 2 := hml0
  have hown : s.vm.findClass "java/util/Arrays" = some m.cls := findClass_of_methodNamed Bd.named
  have hnm := (name_of_methodNamed Bd.named Bd.method).1
  have X0 : Stand p l e ({ frames := 0, cells := 0, slots := 0, locals := 0 } : Room) s m #[(.int a_), (.int e_)] below meth c s₁ [] 0 0 := Stand.of_body Bd
  have e0 : s₁.heap = h0 := by rw [← hh, Bd.state]; rfl
  have N0 := Fr.nil n0
  refine own_enter (ef_rmCl m a_ e_) ?_
  refine own_st (fun t_ k_ => XS.iloadN X0.here hx rfl (hb hby d31_0) rfl (XS.iloadN X0.here hx rfl (hb hby d31_1) rfl (XS.icmpYes X0.here hx rfl (pc0 := 2) (pc' := 37) rfl (hb hby d31_2) rfl (flt hea).2.1 (by decide) (by decide) k_))) ?_
  show own_Go p e below s₁ (mkF m 37 #[.val (.int a_), .val (.int e_)] []) _
  obtain ⟨fs, hr, hrun, hended, hW, hsame⟩ := X0.leave (v := none) (fun _ => rfl)
  refine own_fin (X0.returnOut hx Bd.returns (hb hby d31_37) hr) ⟨hrun, hended, _, _, rfl, ?_, ⟨_, rfl⟩, hW, hsame.mono (by decide) (by decide)⟩
  show Q_rmCl Z a_ e_ h0 n0 _ s₁.heap _
  rw [e0]
  exact ⟨rfl, N0, rfl⟩
theorem d30_0 : decode jdk_65_method_133_code 0 = .ok (.iload_n 1, 1) := by decide +kernel
theorem d30_1 : decode jdk_65_method_133_code 1 = .ok (.iload_n 2, 1) := by decide +kernel
theorem d30_2 : decode jdk_65_method_133_code 2 = .ok (.invokestatic 343, 3) := by decide +kernel
theorem d30_5 : decode jdk_65_method_133_code 5 = .ok (.iload_n 2, 1) := by decide +kernel
theorem d30_6 : decode jdk_65_method_133_code 6 = .ok (.iload_n 1, 1) := by decide +kernel
theorem d30_7 : decode jdk_65_method_133_code 7 = .ok (.isub, 1) := by decide +kernel
theorem d30_8 : decode jdk_65_method_133_code 8 = .ok (.istore_n 3, 1) := by decide +kernel
theorem d30_9 : decode jdk_65_method_133_code 9 = .ok (.iload_n 3, 1) := by decide +kernel
theorem d30_10 : decode jdk_65_method_133_code 10 = .ok (.newarray .byte, 2) := by decide +kernel
theorem d30_12 : decode jdk_65_method_133_code 12 = .ok (.astore 4, 2) := by decide +kernel
theorem d30_14 : decode jdk_65_method_133_code 14 = .ok (.aload_n 0, 1) := by decide +kernel
theorem d30_15 : decode jdk_65_method_133_code 15 = .ok (.iload_n 1, 1) := by decide +kernel
theorem d30_16 : decode jdk_65_method_133_code 16 = .ok (.aload 4, 2) := by decide +kernel
theorem d30_18 : decode jdk_65_method_133_code 18 = .ok (.iconst 0, 1) := by decide +kernel
theorem d30_19 : decode jdk_65_method_133_code 19 = .ok (.aload_n 0, 1) := by decide +kernel
theorem d30_20 : decode jdk_65_method_133_code 20 = .ok (.arraylength, 1) := by decide +kernel
theorem d30_21 : decode jdk_65_method_133_code 21 = .ok (.iload_n 1, 1) := by decide +kernel
theorem d30_22 : decode jdk_65_method_133_code 22 = .ok (.isub, 1) := by decide +kernel
theorem d30_23 : decode jdk_65_method_133_code 23 = .ok (.iload_n 3, 1) := by decide +kernel
theorem d30_24 : decode jdk_65_method_133_code 24 = .ok (.invokestatic 304, 3) := by decide +kernel
theorem d30_27 : decode jdk_65_method_133_code 27 = .ok (.invokestatic 150, 3) := by decide +kernel
theorem d30_30 : decode jdk_65_method_133_code 30 = .ok (.aload 4, 2) := by decide +kernel
theorem d30_32 : decode jdk_65_method_133_code 32 = .ok (.areturn, 1) := by decide +kernel
theorem pn_30 : plainName "java/util/Arrays" = true := by first | (simp [plainName, overriddenIn]; done) | decide +kernel
theorem pd__II_V : parseMethodDescriptor "(II)V" = some ⟨[.int, .int], none⟩ := by decide +kernel
theorem pd__II_I : parseMethodDescriptor "(II)I" = some ⟨[.int, .int], some .int⟩ := by decide +kernel
theorem ef_rmCr (m : MethodId) (x0 : Addr) (x1 : Int32) (x2 : Int32) : entryFrame m #[(.ref x0), (.int x1), (.int x2)] 5 = mkF m 0 #[.val (.ref x0), .val (.int x1), .val (.int x2), .unset, .unset] [] := by first | (simp [entryFrame, mkF, argsToLocals, Value.category]; done) | rfl
def Q_rmCr (Z : State) (va : Addr) (kva : ClassId) (cap : Int32) (k : Int32) (bs : List Value) (rest : List Value) (h0 : Heap) (n0 : Nat) (v : Option Value) (h : Heap) (L : List Loc) : Prop := ∃ b : Addr, ∃ kb : ClassId, v = some (.ref b) ∧ Fr n0 L ∧ Keep h0 h [] ∧ Arv Z h b kb .byte k bs (.int 0) ∧ h0.size ≤ b ∧ n0 ≤ b
set_option maxRecDepth 65536 in
set_option maxHeartbeats 40000000 in
theorem rmCr (l : Launch) (Z : State) (a0 : Array Value) (hw : ∀ d ∈ tables_1, d.before a0 Z = true) (ws : List Jvm.Cond) (va : Addr) (kva : ClassId) (cap : Int32) (k : Int32) (bs : List Value) (rest : List Value) (h0 : Heap) (n0 : Nat) (Z0 : n0 ≤ h0.size) (pV_va : Arv Z h0 va kva .byte cap (bs ++ rest) (.int 0)) (hk : (k.toInt = (bs.length : Int))) (hcap : (cap.toInt = ((bs.length + rest.length : Nat) : Int))) (hlt : (0 < rest.length)) (hbig : (bs.length ≤ 16)) :
    MetFree l (⟨"java/util/Arrays", "copyOfRangeByte", "([BII)[B"⟩ : MethodName) (head1 (Jvm.Cond.code (⟨"java/util/Arrays", "copyOfRangeByte", "([BII)[B"⟩ : MethodName) jdk_65_method_133_code 5 (some (.array .byte)) :: ws) ({ frames := 1, cells := 1, slots := 16, locals := 120 } : Room)) (fun a U => a = #[(.ref va), (.int (0 : Int32)), (.int k)] ∧ Z.Warmed39 U.vm ∧ U.heap = h0) (fun _ _ _ _ _ => True) (fun _ U o U' => ∃ v L, o = .returned v ∧ Q_rmCr Z va kva cap k bs rest h0 n0 v U'.heap L ∧ FrameEnd U o U' L ({ frames := 1, cells := 1, slots := 16, locals := 120 } : Room).cells ({ frames := 1, cells := 1, slots := 16, locals := 120 } : Room).slots) := by
  refine MetFree.of_bodySF (plainFor_of_name pn_30) hisR ?_
  intro p e s m args below meth c s₁ Bd hml0 hP hK
  obtain ⟨rfl, hZ, hh⟩ := hP
  have hx := Bd.exec
  have hby := Bd.bytes
  have hml : c.maxLocals = 5 := hml0
  have hown : s.vm.findClass "java/util/Arrays" = some m.cls := findClass_of_methodNamed Bd.named
  have hnm := (name_of_methodNamed Bd.named Bd.method).1
  have X0 : Stand p l e ({ frames := 1, cells := 1, slots := 16, locals := 120 } : Room) s m #[(.ref va), (.int (0 : Int32)), (.int k)] below meth c s₁ [] 0 0 := Stand.of_body Bd
  have e0 : s₁.heap = h0 := by rw [← hh, Bd.state]; rfl
  have N0 := Fr.nil n0
  refine own_enter (ef_rmCr m va ((0 : Int32)) k) ?_
  have hkz : k < cap := by rw [Int32.lt_iff_toInt_lt]; omega
  refine own_st (fun t_ k_ => XS.iloadN X0.here hx rfl (hb hby d30_0) rfl (XS.iloadN X0.here hx rfl (hb hby d30_1) rfl k_)) ?_
  show own_Go p e below s₁ (mkF m 2 #[.val (.ref va), .val (.int (0 : Int32)), .val (.int k), .unset, .unset] [(.int k), (.int (0 : Int32))]) _
  obtain ⟨_, _, ⟨T1, L1, k1, n1⟩, -, X1, ⟨Lc1, hQ1, l1, y1, z1⟩, st1⟩ := Jvm.LawKit.callS X0 hx (y := (⟨"java/util/Arrays", "checkLength", "(II)V"⟩ : MethodName)) hown (mvT hZ (own_w hw 168 rfl)) (mvT hZ (own_w hw 169 rfl)) (mvT hZ (own_w hw 163 rfl)) (mvT hZ (own_w hw 170 rfl)) (by decide) (backOf (W := 0) (rmCl l Z a0 hw [] ((0 : Int32)) k h0 n0 Z0 (own_nonneg hk)) hZ (own_w hw 170 rfl) (own_w hw 163 rfl) (by decide) (by decide)) (g := (mkF m 2 #[.val (.ref va), .val (.int (0 : Int32)), .val (.int k), .unset, .unset] [(.int k), (.int (0 : Int32))])) rfl (by rw [hml]; rfl) (argsL := [(.int (0 : Int32)), (.int k)]) (rest := []) (lenOf pd__II_V rfl) rfl (by show 2 * 0 + _ ≤ _; exact Nat.le_of_eq rfl) (hb hby d30_2) (fun _ _ => ⟨rfl, e0, (by decide : 0 + 0 ≤ _), (by decide : 0 + 0 ≤ _)⟩)
  dsimp only [Pt.U, Pt.locs, Pt.cells, Pt.slots] at X1 l1 y1 z1 st1 hQ1
  try dsimp only [Nat.reduceAdd] at y1 z1
  rw [l1, y1, z1] at X1
  obtain ⟨rfl, Nq1, eH1⟩ := hQ1
  have N1 := Fr.app N0 Nq1
  refine own_st st1 ?_
  show own_Go p e below T1 (mkF m 5 #[.val (.ref va), .val (.int (0 : Int32)), .val (.int k), .unset, .unset] []) _
  refine own_st (fun t_ k_ => XS.iloadN X1.here hx rfl (hb hby d30_5) rfl (XS.iloadN X1.here hx rfl (hb hby d30_6) rfl (XS.isub X1.here hx rfl (hb hby d30_7) rfl k_))) ?_
  show own_Go p e below T1 (mkF m 8 #[.val (.ref va), .val (.int (0 : Int32)), .val (.int k), .unset, .unset] [(.int (k - (0 : Int32)))]) _
  rw [own_sub0 k]
  show own_Go p e below T1 (mkF m 8 #[.val (.ref va), .val (.int (0 : Int32)), .val (.int k), .unset, .unset] [(.int k)]) _
  refine own_st (fun t_ k_ => XS.istoreN X1.here hx rfl (hb hby d30_8) rfl (l' := #[.val (.ref va), .val (.int (0 : Int32)), .val (.int k), .val (.int k), .unset]) rfl (XS.iloadN X1.here hx rfl (hb hby d30_9) rfl k_)) ?_
  show own_Go p e below T1 (mkF m 10 #[.val (.ref va), .val (.int (0 : Int32)), .val (.int k), .val (.int k), .unset] [(.int k)]) _
  obtain ⟨T2, h2, k2, X2, e2, E2, A2, st2⟩ := newP X1 hx hZ (own_w hw 27 rfl) eH1 (g := (mkF m 10 #[.val (.ref va), .val (.int (0 : Int32)), .val (.int k), .val (.int k), .unset] [(.int k)])) rfl (hb hby d30_10) rfl (own_nonneg hk) (cap := 16) (by rw [own_clamp hk]; exact hbig) (by decide) (by decide) (by decide)
  obtain ⟨b2, g2⟩ : ∃ z, z = h0.size := ⟨_, rfl⟩
  rw [← g2] at A2 st2
  have G2 : n0 ≤ b2 := Nat.le_trans Z0 (Nat.le_of_eq g2.symm)
  have B2 : h0.size ≤ b2 := Nat.le_trans (Keep.refl h0 []).1 (Nat.le_of_eq g2.symm)
  have K3 : Keep h0 h2 [] := (Keep.refl h0 []).ext E2
  have V2 : Arv Z h2 b2 k2 .byte k [] (.int (0 : Int32)) := Arv.new A2 (own_nonneg hk)
  refine own_st st2 ?_
  show own_Go p e below T2 (mkF m 12 #[.val (.ref va), .val (.int (0 : Int32)), .val (.int k), .val (.int k), .unset] [(.ref b2)]) _
  have Vp : Arv Z h2 b2 k2 .byte k (List.replicate bs.length (.int (0 : Int32))) (.int (0 : Int32)) := V2.pad (pad_rep [] (.int (0 : Int32)) bs.length)
  refine own_st (fun t_ k_ => XS.astore X2.here hx rfl (hb hby d30_12) rfl rfl (l' := #[.val (.ref va), .val (.int (0 : Int32)), .val (.int k), .val (.int k), .val (.ref b2)]) rfl (XS.aloadN X2.here hx rfl (hb hby d30_14) rfl rfl (XS.iloadN X2.here hx rfl (hb hby d30_15) rfl (XS.aload X2.here hx rfl (hb hby d30_16) rfl rfl (XS.iconst X2.here hx rfl (hb hby d30_18) (XS.aloadN X2.here hx rfl (hb hby d30_19) rfl rfl k_)))))) ?_
  show own_Go p e below T2 (mkF m 20 #[.val (.ref va), .val (.int (0 : Int32)), .val (.int k), .val (.int k), .val (.ref b2)] [(.ref va), (.int (0 : Int32)), (.ref b2), (.int (0 : Int32)), (.ref va)]) _
  have f4 := (pV_va.ext E2)
  obtain ⟨cl5, Ar5, q5, Sz5, Nn5, Hh5, Gg5⟩ := id f4
  refine own_st (fun t_ k_ => X2.arraylength hx (by rw [e2]; exact Ar5.1) (State.isArrayOf_alike hZ.alike Ar5.2.1) (g := (mkF m 20 #[.val (.ref va), .val (.int (0 : Int32)), .val (.int k), .val (.int k), .val (.ref b2)] [(.ref va), (.int (0 : Int32)), (.ref b2), (.int (0 : Int32)), (.ref va)])) rfl rfl (hb hby d30_20) _ k_) ?_
  rw [len_of Sz5 Nn5]
  show own_Go p e below T2 (mkF m 21 #[.val (.ref va), .val (.int (0 : Int32)), .val (.int k), .val (.int k), .val (.ref b2)] [(.int cap), (.int (0 : Int32)), (.ref b2), (.int (0 : Int32)), (.ref va)]) _
  refine own_st (fun t_ k_ => XS.iloadN X2.here hx rfl (hb hby d30_21) rfl (XS.isub X2.here hx rfl (hb hby d30_22) rfl k_)) ?_
  show own_Go p e below T2 (mkF m 23 #[.val (.ref va), .val (.int (0 : Int32)), .val (.int k), .val (.int k), .val (.ref b2)] [(.int (cap - (0 : Int32))), (.int (0 : Int32)), (.ref b2), (.int (0 : Int32)), (.ref va)]) _
  rw [own_sub0 cap]
  show own_Go p e below T2 (mkF m 23 #[.val (.ref va), .val (.int (0 : Int32)), .val (.int k), .val (.int k), .val (.ref b2)] [(.int cap), (.int (0 : Int32)), (.ref b2), (.int (0 : Int32)), (.ref va)]) _
  refine own_st (fun t_ k_ => XS.iloadN X2.here hx rfl (hb hby d30_23) rfl k_) ?_
  show own_Go p e below T2 (mkF m 24 #[.val (.ref va), .val (.int (0 : Int32)), .val (.int k), .val (.int k), .val (.ref b2)] [(.int k), (.int cap), (.int (0 : Int32)), (.ref b2), (.int (0 : Int32)), (.ref va)]) _
  have f6 := (Nat.le_trans Z0 E2.1)
  obtain ⟨_, _, ⟨T7, L7, k7, n7⟩, -, X7, ⟨Lc7, hQ7, l7, y7, z7⟩, st7⟩ := Jvm.LawKit.callS X2 hx (y := (⟨"java/lang/Math", "min", "(II)I"⟩ : MethodName)) hown (mvT hZ (own_w hw 171 rfl)) (mvT hZ (own_w hw 1 rfl)) (mvT hZ (own_w hw 2 rfl)) (mvT hZ (own_w hw 3 rfl)) (by decide) (backOf (W := 4) (rmMb l Z a0 hw [] cap k h2 n0 f6 hkz) hZ (own_w hw 3 rfl) (own_w hw 2 rfl) (by decide) (by decide)) (g := (mkF m 24 #[.val (.ref va), .val (.int (0 : Int32)), .val (.int k), .val (.int k), .val (.ref b2)] [(.int k), (.int cap), (.int (0 : Int32)), (.ref b2), (.int (0 : Int32)), (.ref va)])) rfl (by rw [hml]; rfl) (argsL := [(.int cap), (.int k)]) (rest := [(.int (0 : Int32)), (.ref b2), (.int (0 : Int32)), (.ref va)]) (lenOf pd__II_I rfl) rfl (by show 2 * 0 + _ ≤ _; exact Nat.le_of_eq rfl) (hb hby d30_24) (fun _ _ => ⟨rfl, e2, (by decide : 1 + 0 ≤ _), (by decide : 16 + 0 ≤ _)⟩)
  dsimp only [Pt.U, Pt.locs, Pt.cells, Pt.slots] at X7 l7 y7 z7 st7 hQ7
  try dsimp only [Nat.reduceAdd] at y7 z7
  rw [l7, y7, z7] at X7
  obtain ⟨rfl, Nq7, eH7⟩ := hQ7
  have N7 := Fr.app N1 Nq7
  refine own_st st7 ?_
  show own_Go p e below T7 (mkF m 27 #[.val (.ref va), .val (.int (0 : Int32)), .val (.int k), .val (.int k), .val (.ref b2)] [(.int k), (.int (0 : Int32)), (.ref b2), (.int (0 : Int32)), (.ref va)]) _
  obtain ⟨T8, h8, L8, X8, e8, N8, Kq8, Va8, st8⟩ := cpA X7 hx hZ hown (own_w hw 172 rfl) (own_w hw 128 rfl) (own_w hw 126 rfl) (own_w hw 127 rfl) eH7 f4 Vp (Or.inl ⟨rfl, rfl⟩) (sp := (0 : Int32)) (dp := (0 : Int32)) (nn := k) (by decide) (by decide) (own_nonneg hk) (by rw [own_clamp hk, own_clamp hcap]; exact Nat.le_trans (Nat.le_of_eq (Nat.zero_add _)) (Nat.le_add_right _ _)) (by rw [own_clamp hk]; exact Nat.le_of_eq (Nat.zero_add _)) (us := bs) (own_range hk) (by rw [own_clamp hk, List.length_replicate]; exact Nat.le_of_eq (Nat.zero_add _)) N7 G2 (g := (mkF m 27 #[.val (.ref va), .val (.int (0 : Int32)), .val (.int k), .val (.int k), .val (.ref b2)] [(.int k), (.int (0 : Int32)), (.ref b2), (.int (0 : Int32)), (.ref va)])) rfl (by rw [hml]; rfl) (rest := []) rfl (hb hby d30_27) (by decide) (W := 0) (by show 2 * 0 + _ ≤ _; exact Nat.le_of_eq rfl) (by decide +kernel)
  rw [own_cp0 hk (List.length_replicate ..)] at Va8
  have K9 : Keep h0 h8 [] := K3.trans Kq8 (allS (Or.inr B2) all0)
  refine own_st st8 ?_
  show own_Go p e below T8 (mkF m 30 #[.val (.ref va), .val (.int (0 : Int32)), .val (.int k), .val (.int k), .val (.ref b2)] []) _
  refine own_st (fun t_ k_ => XS.aload X8.here hx rfl (hb hby d30_30) rfl rfl k_) ?_
  show own_Go p e below T8 (mkF m 32 #[.val (.ref va), .val (.int (0 : Int32)), .val (.int k), .val (.int k), .val (.ref b2)] [(.ref b2)]) _
  obtain ⟨fs, hr, hrun, hended, hW, hsame⟩ := X8.leave (v := some (.ref b2)) (fun h => by rw [Bd.returns] at h; cases h)
  refine own_fin (own_retR X8 hx rfl Bd.returns rfl (hb hby d30_32) hr) ⟨hrun, hended, _, _, rfl, ?_, ⟨_, rfl⟩, hW, hsame.mono (by decide) (by decide)⟩
  show Q_rmCr Z va kva cap k bs rest h0 n0 _ T8.heap _
  rw [e8]
  exact ⟨b2, k2, rfl, N8, K9, Va8, B2, G2⟩
theorem d29_0 : decode jdk_65_method_132_code 0 = .ok (.iload_n 1, 1) := by decide +kernel
theorem d29_1 : decode jdk_65_method_132_code 1 = .ok (.ifCond .ne 9, 3) := by decide +kernel
theorem d29_4 : decode jdk_65_method_132_code 4 = .ok (.iload_n 2, 1) := by decide +kernel
theorem d29_5 : decode jdk_65_method_132_code 5 = .ok (.aload_n 0, 1) := by decide +kernel
theorem d29_6 : decode jdk_65_method_132_code 6 = .ok (.arraylength, 1) := by decide +kernel
theorem d29_7 : decode jdk_65_method_132_code 7 = .ok (.if_icmp .eq 10, 3) := by decide +kernel
theorem d29_10 : decode jdk_65_method_132_code 10 = .ok (.aload_n 0, 1) := by decide +kernel
theorem d29_11 : decode jdk_65_method_132_code 11 = .ok (.iload_n 1, 1) := by decide +kernel
theorem d29_12 : decode jdk_65_method_132_code 12 = .ok (.iload_n 2, 1) := by decide +kernel
theorem d29_13 : decode jdk_65_method_132_code 13 = .ok (.invokestatic 339, 3) := by decide +kernel
theorem d29_16 : decode jdk_65_method_132_code 16 = .ok (.areturn, 1) := by decide +kernel
theorem pn_29 : plainName "java/util/Arrays" = true := by first | (simp [plainName, overriddenIn]; done) | decide +kernel
theorem pd___BII__B : parseMethodDescriptor "([BII)[B" = some ⟨[(.array .byte), .int, .int], some (.array .byte)⟩ := by decide +kernel
theorem ef_rmCp (m : MethodId) (x0 : Addr) (x1 : Int32) (x2 : Int32) : entryFrame m #[(.ref x0), (.int x1), (.int x2)] 3 = mkF m 0 #[.val (.ref x0), .val (.int x1), .val (.int x2)] [] := by first | (simp [entryFrame, mkF, argsToLocals, Value.category]; done) | rfl
def Q_rmCp (Z : State) (va : Addr) (kva : ClassId) (cap : Int32) (k : Int32) (bs : List Value) (rest : List Value) (h0 : Heap) (n0 : Nat) (v : Option Value) (h : Heap) (L : List Loc) : Prop := ∃ b : Addr, ∃ kb : ClassId, v = some (.ref b) ∧ Fr n0 L ∧ Keep h0 h [] ∧ Arv Z h b kb .byte k bs (.int 0) ∧ h0.size ≤ b ∧ n0 ≤ b
set_option maxRecDepth 65536 in
set_option maxHeartbeats 40000000 in
theorem rmCp (l : Launch) (Z : State) (a0 : Array Value) (hw : ∀ d ∈ tables_1, d.before a0 Z = true) (ws : List Jvm.Cond) (va : Addr) (kva : ClassId) (cap : Int32) (k : Int32) (bs : List Value) (rest : List Value) (h0 : Heap) (n0 : Nat) (Z0 : n0 ≤ h0.size) (pV_va : Arv Z h0 va kva .byte cap (bs ++ rest) (.int 0)) (hk : (k.toInt = (bs.length : Int))) (hcap : (cap.toInt = ((bs.length + rest.length : Nat) : Int))) (hlt : (0 < rest.length)) (hbig : (bs.length ≤ 16)) :
    MetFree l (⟨"java/util/Arrays", "copyOfRange", "([BII)[B"⟩ : MethodName) (head1 (Jvm.Cond.code (⟨"java/util/Arrays", "copyOfRange", "([BII)[B"⟩ : MethodName) jdk_65_method_132_code 3 (some (.array .byte)) :: ws) ({ frames := 2, cells := 1, slots := 16, locals := 136 } : Room)) (fun a U => a = #[(.ref va), (.int (0 : Int32)), (.int k)] ∧ Z.Warmed39 U.vm ∧ U.heap = h0) (fun _ _ _ _ _ => True) (fun _ U o U' => ∃ v L, o = .returned v ∧ Q_rmCp Z va kva cap k bs rest h0 n0 v U'.heap L ∧ FrameEnd U o U' L ({ frames := 2, cells := 1, slots := 16, locals := 136 } : Room).cells ({ frames := 2, cells := 1, slots := 16, locals := 136 } : Room).slots) := by
  refine MetFree.of_bodySF (plainFor_of_name pn_29) hisR ?_
  intro p e s m args below meth c s₁ Bd hml0 hP hK
  obtain ⟨rfl, hZ, hh⟩ := hP
  have hx := Bd.exec
  have hby := Bd.bytes
  have hml : c.maxLocals = 3 := hml0
  have hown : s.vm.findClass "java/util/Arrays" = some m.cls := findClass_of_methodNamed Bd.named
  have hnm := (name_of_methodNamed Bd.named Bd.method).1
  have X0 : Stand p l e ({ frames := 2, cells := 1, slots := 16, locals := 136 } : Room) s m #[(.ref va), (.int (0 : Int32)), (.int k)] below meth c s₁ [] 0 0 := Stand.of_body Bd
  have e0 : s₁.heap = h0 := by rw [← hh, Bd.state]; rfl
  have N0 := Fr.nil n0
  refine own_enter (ef_rmCp m va ((0 : Int32)) k) ?_
  have hkz : k < cap := by rw [Int32.lt_iff_toInt_lt]; omega
  have hne : ¬ (k = cap) := fun q => by rw [q, Int32.lt_iff_toInt_lt] at hkz; omega
  refine own_st (fun t_ k_ => XS.iloadN X0.here hx rfl (hb hby d29_0) rfl (XS.ifNo X0.here hx rfl (hb hby d29_1) rfl (by decide) (XS.iloadN X0.here hx rfl (hb hby d29_4) rfl (XS.aloadN X0.here hx rfl (hb hby d29_5) rfl rfl k_)))) ?_
  show own_Go p e below s₁ (mkF m 6 #[.val (.ref va), .val (.int (0 : Int32)), .val (.int k)] [(.ref va), (.int k)]) _
  obtain ⟨cl1, Ar1, q1, Sz1, Nn1, Hh1, Gg1⟩ := id pV_va
  refine own_st (fun t_ k_ => X0.arraylength hx (by rw [e0]; exact Ar1.1) (State.isArrayOf_alike hZ.alike Ar1.2.1) (g := (mkF m 6 #[.val (.ref va), .val (.int (0 : Int32)), .val (.int k)] [(.ref va), (.int k)])) rfl rfl (hb hby d29_6) _ k_) ?_
  rw [len_of Sz1 Nn1]
  show own_Go p e below s₁ (mkF m 7 #[.val (.ref va), .val (.int (0 : Int32)), .val (.int k)] [(.int cap), (.int k)]) _
  refine own_st (fun t_ k_ => XS.icmpNo X0.here hx rfl (hb hby d29_7) rfl (feq hne).1 (XS.aloadN X0.here hx rfl (hb hby d29_10) rfl rfl (XS.iloadN X0.here hx rfl (hb hby d29_11) rfl (XS.iloadN X0.here hx rfl (hb hby d29_12) rfl k_)))) ?_
  show own_Go p e below s₁ (mkF m 13 #[.val (.ref va), .val (.int (0 : Int32)), .val (.int k)] [(.int k), (.int (0 : Int32)), (.ref va)]) _
  obtain ⟨_, _, ⟨T2, L2, k2, n2⟩, -, X2, ⟨Lc2, hQ2, l2, y2, z2⟩, st2⟩ := Jvm.LawKit.callS X0 hx (y := (⟨"java/util/Arrays", "copyOfRangeByte", "([BII)[B"⟩ : MethodName)) hown (mvT hZ (own_w hw 165 rfl)) (mvT hZ (own_w hw 166 rfl)) (mvT hZ (own_w hw 163 rfl)) (mvT hZ (own_w hw 167 rfl)) (by decide) (backOf (W := 0) (rmCr l Z a0 hw [] va kva cap k bs rest h0 n0 Z0 pV_va hk hcap hlt hbig) hZ (own_w hw 167 rfl) (own_w hw 163 rfl) (by decide) (by decide)) (g := (mkF m 13 #[.val (.ref va), .val (.int (0 : Int32)), .val (.int k)] [(.int k), (.int (0 : Int32)), (.ref va)])) rfl (by rw [hml]; rfl) (argsL := [(.ref va), (.int (0 : Int32)), (.int k)]) (rest := []) (lenOf pd___BII__B rfl) rfl (by show 2 * 0 + _ ≤ _; exact Nat.le_of_eq rfl) (hb hby d29_13) (fun _ _ => ⟨rfl, e0, (by decide : 0 + 1 ≤ _), (by decide : 0 + 16 ≤ _)⟩)
  dsimp only [Pt.U, Pt.locs, Pt.cells, Pt.slots] at X2 l2 y2 z2 st2 hQ2
  try dsimp only [Nat.reduceAdd] at y2 z2
  rw [l2, y2, z2] at X2
  obtain ⟨b_2, kb_2, rfl, Nq2, Kq2, q2_0, q2_1, q2_2⟩ := hQ2
  have N2 := Fr.app N0 Nq2
  have K3 : Keep h0 T2.heap [] := (Keep.refl h0 []).trans Kq2 all0
  have Bf4 : h0.size ≤ b_2 := Nat.le_trans (Keep.refl h0 []).1 q2_1
  refine own_st st2 ?_
  show own_Go p e below T2 (mkF m 16 #[.val (.ref va), .val (.int (0 : Int32)), .val (.int k)] [(.ref b_2)]) _
  obtain ⟨fs, hr, hrun, hended, hW, hsame⟩ := X2.leave (v := some (.ref b_2)) (fun h => by rw [Bd.returns] at h; cases h)
  refine own_fin (own_retR X2 hx rfl Bd.returns rfl (hb hby d29_16) hr) ⟨hrun, hended, _, _, rfl, ?_, ⟨_, rfl⟩, hW, hsame.mono (by decide) (by decide)⟩
  show Q_rmCp Z va kva cap k bs rest h0 n0 _ T2.heap _
  exact ⟨b_2, kb_2, rfl, N2, K3, q2_0, Bf4, q2_2⟩
theorem d25_0 : decode jdk_68_method_64_code 0 = .ok (.aload_n 0, 1) := by decide +kernel
theorem d25_1 : decode jdk_68_method_64_code 1 = .ok (.getfield 15, 3) := by decide +kernel
theorem d25_4 : decode jdk_68_method_64_code 4 = .ok (.areturn, 1) := by decide +kernel
theorem pn_25 : plainName "java/lang/AbstractStringBuilder" = true := by first | (simp [plainName, overriddenIn]; done) | decide +kernel
theorem ef_rmGv (m : MethodId) (x0 : Addr) : entryFrame m #[(.ref x0)] 1 = mkF m 0 #[.val (.ref x0)] [] := by first | (simp [entryFrame, mkF, argsToLocals, Value.category]; done) | rfl
def Q_rmGv (Z : State) (a1 : Addr) (va : Addr) (h0 : Heap) (n0 : Nat) (v : Option Value) (h : Heap) (L : List Loc) : Prop := v = some (.ref va) ∧ Fr n0 L ∧ h = h0
set_option maxRecDepth 65536 in
set_option maxHeartbeats 40000000 in
theorem rmGv (l : Launch) (Z : State) (a0 : Array Value) (hw : ∀ d ∈ tables_1, d.before a0 Z = true) (ws : List Jvm.Cond) (a1 : Addr) (va : Addr) (h0 : Heap) (n0 : Nat) (Z0 : n0 ≤ h0.size) (pE_a1 : Exa Z h0 a1 "java/lang/StringBuilder") (pF_value_a1 : Fld Z h0 a1 "java/lang/AbstractStringBuilder" "value" "[B" (.ref va)) :
    MetFree l (⟨"java/lang/AbstractStringBuilder", "getValue", "()[B"⟩ : MethodName) (head1 (Jvm.Cond.code (⟨"java/lang/AbstractStringBuilder", "getValue", "()[B"⟩ : MethodName) jdk_68_method_64_code 1 (some (.array .byte)) :: ws) ({ frames := 0, cells := 0, slots := 0, locals := 0 } : Room)) (fun a U => a = #[(.ref a1)] ∧ Z.Warmed39 U.vm ∧ U.heap = h0) (fun _ _ _ _ _ => True) (fun _ U o U' => ∃ v L, o = .returned v ∧ Q_rmGv Z a1 va h0 n0 v U'.heap L ∧ FrameEnd U o U' L ({ frames := 0, cells := 0, slots := 0, locals := 0 } : Room).cells ({ frames := 0, cells := 0, slots := 0, locals := 0 } : Room).slots) := by
  refine MetFree.of_bodySF (plainFor_of_name pn_25) hisR ?_
  intro p e s m args below meth c s₁ Bd hml0 hP hK
  obtain ⟨rfl, hZ, hh⟩ := hP
  have hx := Bd.exec
  have hby := Bd.bytes
  have hml : c.maxLocals = 1 := hml0
  have hown : s.vm.findClass "java/lang/AbstractStringBuilder" = some m.cls := findClass_of_methodNamed Bd.named
  have hnm := (name_of_methodNamed Bd.named Bd.method).1
  have X0 : Stand p l e ({ frames := 0, cells := 0, slots := 0, locals := 0 } : Room) s m #[(.ref a1)] below meth c s₁ [] 0 0 := Stand.of_body Bd
  have e0 : s₁.heap = h0 := by rw [← hh, Bd.state]; rfl
  have N0 := Fr.nil n0
  refine own_enter (ef_rmGv m a1) ?_
  refine own_st (fun t_ k_ => XS.aloadN X0.here hx rfl (hb hby d25_0) rfl rfl k_) ?_
  show own_Go p e below s₁ (mkF m 1 #[.val (.ref a1)] [(.ref a1)]) _
  obtain ⟨T1, X1, e1, st1⟩ := getF X0 hx hZ hown (host := "") (Or.inl (own_w hw 78 rfl)) Via.refl e0 pF_value_a1 (g := (mkF m 1 #[.val (.ref a1)] [(.ref a1)])) rfl rfl (hb hby d25_1)
  refine own_st st1 ?_
  show own_Go p e below T1 (mkF m 4 #[.val (.ref a1)] [(.ref va)]) _
  obtain ⟨fs, hr, hrun, hended, hW, hsame⟩ := X1.leave (v := some (.ref va)) (fun h => by rw [Bd.returns] at h; cases h)
  refine own_fin (own_retR X1 hx rfl Bd.returns rfl (hb hby d25_4) hr) ⟨hrun, hended, _, _, rfl, ?_, ⟨_, rfl⟩, hW, hsame.mono (by decide) (by decide)⟩
  show Q_rmGv Z a1 va h0 n0 _ T1.heap _
  rw [e1]
  exact ⟨rfl, N0, rfl⟩
theorem d27_0 : decode jdk_68_method_6_code 0 = .ok (.aload_n 0, 1) := by decide +kernel
theorem d27_1 : decode jdk_68_method_6_code 1 = .ok (.getfield 79, 3) := by decide +kernel
theorem d27_4 : decode jdk_68_method_6_code 4 = .ok (.ireturn, 1) := by decide +kernel
theorem pn_27 : plainName "java/lang/AbstractStringBuilder" = true := by first | (simp [plainName, overriddenIn]; done) | decide +kernel
theorem ef_rmAl (m : MethodId) (x0 : Addr) : entryFrame m #[(.ref x0)] 1 = mkF m 0 #[.val (.ref x0)] [] := by first | (simp [entryFrame, mkF, argsToLocals, Value.category]; done) | rfl
def Q_rmAl (Z : State) (a1 : Addr) (k : Int32) (h0 : Heap) (n0 : Nat) (v : Option Value) (h : Heap) (L : List Loc) : Prop := v = some (.int k) ∧ Fr n0 L ∧ h = h0
set_option maxRecDepth 65536 in
set_option maxHeartbeats 40000000 in
theorem rmAl (l : Launch) (Z : State) (a0 : Array Value) (hw : ∀ d ∈ tables_1, d.before a0 Z = true) (ws : List Jvm.Cond) (a1 : Addr) (k : Int32) (h0 : Heap) (n0 : Nat) (Z0 : n0 ≤ h0.size) (pE_a1 : Exa Z h0 a1 "java/lang/StringBuilder") (pF_count_a1 : Fld Z h0 a1 "java/lang/AbstractStringBuilder" "count" "I" (.int k)) :
    MetFree l (⟨"java/lang/AbstractStringBuilder", "length", "()I"⟩ : MethodName) (head1 (Jvm.Cond.code (⟨"java/lang/AbstractStringBuilder", "length", "()I"⟩ : MethodName) jdk_68_method_6_code 1 (some .int) :: ws) ({ frames := 0, cells := 0, slots := 0, locals := 0 } : Room)) (fun a U => a = #[(.ref a1)] ∧ Z.Warmed39 U.vm ∧ U.heap = h0) (fun _ _ _ _ _ => True) (fun _ U o U' => ∃ v L, o = .returned v ∧ Q_rmAl Z a1 k h0 n0 v U'.heap L ∧ FrameEnd U o U' L ({ frames := 0, cells := 0, slots := 0, locals := 0 } : Room).cells ({ frames := 0, cells := 0, slots := 0, locals := 0 } : Room).slots) := by
  refine MetFree.of_bodySF (plainFor_of_name pn_27) hisR ?_
  intro p e s m args below meth c s₁ Bd hml0 hP hK
  obtain ⟨rfl, hZ, hh⟩ := hP
  have hx := Bd.exec
  have hby := Bd.bytes
  have hml : c.maxLocals = 1 := hml0
  have hown : s.vm.findClass "java/lang/AbstractStringBuilder" = some m.cls := findClass_of_methodNamed Bd.named
  have hnm := (name_of_methodNamed Bd.named Bd.method).1
  have X0 : Stand p l e ({ frames := 0, cells := 0, slots := 0, locals := 0 } : Room) s m #[(.ref a1)] below meth c s₁ [] 0 0 := Stand.of_body Bd
  have e0 : s₁.heap = h0 := by rw [← hh, Bd.state]; rfl
  have N0 := Fr.nil n0
  refine own_enter (ef_rmAl m a1) ?_
  refine own_st (fun t_ k_ => XS.aloadN X0.here hx rfl (hb hby d27_0) rfl rfl k_) ?_
  show own_Go p e below s₁ (mkF m 1 #[.val (.ref a1)] [(.ref a1)]) _
  obtain ⟨T1, X1, e1, st1⟩ := getF X0 hx hZ hown (host := "") (Or.inl (own_w hw 102 rfl)) Via.refl e0 pF_count_a1 (g := (mkF m 1 #[.val (.ref a1)] [(.ref a1)])) rfl rfl (hb hby d27_1)
  refine own_st st1 ?_
  show own_Go p e below T1 (mkF m 4 #[.val (.ref a1)] [(.int k)]) _
  obtain ⟨fs, hr, hrun, hended, hW, hsame⟩ := X1.leave (v := some (.int k)) (fun h => by rw [Bd.returns] at h; cases h)
  refine own_fin (own_retI X1 hx Bd.returns (hb hby d27_4) hr) ⟨hrun, hended, _, _, rfl, ?_, ⟨_, rfl⟩, hW, hsame.mono (by decide) (by decide)⟩
  show Q_rmAl Z a1 k h0 n0 _ T1.heap _
  rw [e1]
  exact ⟨rfl, N0, rfl⟩
theorem d26_0 : decode jdk_67_method_93_code 0 = .ok (.aload_n 0, 1) := by decide +kernel
theorem d26_1 : decode jdk_67_method_93_code 1 = .ok (.invokespecial 343, 3) := by decide +kernel
theorem d26_4 : decode jdk_67_method_93_code 4 = .ok (.ireturn, 1) := by decide +kernel
theorem pn_26 : plainName "java/lang/StringBuilder" = true := by first | (simp [plainName, overriddenIn]; done) | decide +kernel
theorem ef_rmSl (m : MethodId) (x0 : Addr) : entryFrame m #[(.ref x0)] 1 = mkF m 0 #[.val (.ref x0)] [] := by first | (simp [entryFrame, mkF, argsToLocals, Value.category]; done) | rfl
def Q_rmSl (Z : State) (a1 : Addr) (k : Int32) (h0 : Heap) (n0 : Nat) (v : Option Value) (h : Heap) (L : List Loc) : Prop := v = some (.int k) ∧ Fr n0 L ∧ h = h0
set_option maxRecDepth 65536 in
set_option maxHeartbeats 40000000 in
theorem rmSl (l : Launch) (Z : State) (a0 : Array Value) (hw : ∀ d ∈ tables_1, d.before a0 Z = true) (ws : List Jvm.Cond) (a1 : Addr) (k : Int32) (h0 : Heap) (n0 : Nat) (Z0 : n0 ≤ h0.size) (pE_a1 : Exa Z h0 a1 "java/lang/StringBuilder") (pF_count_a1 : Fld Z h0 a1 "java/lang/AbstractStringBuilder" "count" "I" (.int k)) :
    MetFree l (⟨"java/lang/StringBuilder", "length", "()I"⟩ : MethodName) (head1 (Jvm.Cond.code (⟨"java/lang/StringBuilder", "length", "()I"⟩ : MethodName) jdk_67_method_93_code 1 (some .int) :: ws) ({ frames := 1, cells := 0, slots := 0, locals := 12 } : Room)) (fun a U => a = #[(.ref a1)] ∧ Z.Warmed39 U.vm ∧ U.heap = h0) (fun _ _ _ _ _ => True) (fun _ U o U' => ∃ v L, o = .returned v ∧ Q_rmSl Z a1 k h0 n0 v U'.heap L ∧ FrameEnd U o U' L ({ frames := 1, cells := 0, slots := 0, locals := 12 } : Room).cells ({ frames := 1, cells := 0, slots := 0, locals := 12 } : Room).slots) := by
  refine MetFree.of_bodySF (plainFor_of_name pn_26) hisR ?_
  intro p e s m args below meth c s₁ Bd hml0 hP hK
  obtain ⟨rfl, hZ, hh⟩ := hP
  have hx := Bd.exec
  have hby := Bd.bytes
  have hml : c.maxLocals = 1 := hml0
  have hown : s.vm.findClass "java/lang/StringBuilder" = some m.cls := findClass_of_methodNamed Bd.named
  have hnm := (name_of_methodNamed Bd.named Bd.method).1
  have X0 : Stand p l e ({ frames := 1, cells := 0, slots := 0, locals := 12 } : Room) s m #[(.ref a1)] below meth c s₁ [] 0 0 := Stand.of_body Bd
  have e0 : s₁.heap = h0 := by rw [← hh, Bd.state]; rfl
  have N0 := Fr.nil n0
  refine own_enter (ef_rmSl m a1) ?_
  refine own_st (fun t_ k_ => XS.aloadN X0.here hx rfl (hb hby d26_0) rfl rfl k_) ?_
  show own_Go p e below s₁ (mkF m 1 #[.val (.ref a1)] [(.ref a1)]) _
  obtain ⟨_, _, ⟨T1, L1, k1, n1⟩, -, X1, ⟨Lc1, hQ1, l1, y1, z1⟩, st1⟩ := superBack X0 hx hZ (y := (⟨"java/lang/AbstractStringBuilder", "length", "()I"⟩ : MethodName)) hown (own_w hw 154 rfl) (own_same (y := (⟨"java/lang/AbstractStringBuilder", "length", "()I"⟩ : MethodName)) (y' := (⟨"java/lang/AbstractStringBuilder", "getValue", "()[B"⟩ : MethodName)) (own_w hw 149 rfl) (own_w hw 146 rfl) rfl (by decide)) (own_w hw 150 rfl) (own_w hw 89 rfl) (by decide) (backOf (W := 0) (rmAl l Z a0 hw [] a1 k h0 n0 Z0 pE_a1 pF_count_a1) hZ (own_w hw 155 rfl) (own_w hw 74 rfl) (by decide) (by decide)) e0 (Ins.self pE_a1) (g := (mkF m 1 #[.val (.ref a1)] [(.ref a1)])) rfl (by rw [hml]; rfl) (own_w hw 155 rfl) (argsL := []) (rest := []) (lenOf pd___I rfl) rfl (by show 2 * 0 + _ ≤ _; exact Nat.le_of_eq rfl) (hb hby d26_1) (fun _ _ => ⟨rfl, e0, (by decide : 0 + 0 ≤ _), (by decide : 0 + 0 ≤ _)⟩)
  dsimp only [Pt.U, Pt.locs, Pt.cells, Pt.slots] at X1 l1 y1 z1 st1 hQ1
  try dsimp only [Nat.reduceAdd] at y1 z1
  rw [l1, y1, z1] at X1
  obtain ⟨rfl, Nq1, eH1⟩ := hQ1
  have N1 := Fr.app N0 Nq1
  refine own_tr st1 ?_
  show own_Go p e below T1 (mkF m 4 #[.val (.ref a1)] [(.int k)]) _
  obtain ⟨fs, hr, hrun, hended, hW, hsame⟩ := X1.leave (v := some (.int k)) (fun h => by rw [Bd.returns] at h; cases h)
  refine own_fin (own_retI X1 hx Bd.returns (hb hby d26_4) hr) ⟨hrun, hended, _, _, rfl, ?_, ⟨_, rfl⟩, hW, hsame.mono (by decide) (by decide)⟩
  show Q_rmSl Z a1 k h0 n0 _ T1.heap _
  rw [eH1]
  exact ⟨rfl, N1, rfl⟩
theorem d28_0 : decode jdk_68_method_68_code 0 = .ok (.getstatic 18, 3) := by decide +kernel
theorem d28_3 : decode jdk_68_method_68_code 3 = .ok (.ifCond .eq 14, 3) := by decide +kernel
theorem d28_6 : decode jdk_68_method_68_code 6 = .ok (.aload_n 0, 1) := by decide +kernel
theorem d28_7 : decode jdk_68_method_68_code 7 = .ok (.getfield 22, 3) := by decide +kernel
theorem d28_10 : decode jdk_68_method_68_code 10 = .ok (.ifCond .ne 7, 3) := by decide +kernel
theorem d28_13 : decode jdk_68_method_68_code 13 = .ok (.iconst 1, 1) := by decide +kernel
theorem d28_14 : decode jdk_68_method_68_code 14 = .ok (.goto 4, 3) := by decide +kernel
theorem d28_18 : decode jdk_68_method_68_code 18 = .ok (.ireturn, 1) := by decide +kernel
theorem pn_28 : plainName "java/lang/AbstractStringBuilder" = true := by first | (simp [plainName, overriddenIn]; done) | decide +kernel
theorem ef_rmAil (m : MethodId) (x0 : Addr) : entryFrame m #[(.ref x0)] 1 = mkF m 0 #[.val (.ref x0)] [] := by first | (simp [entryFrame, mkF, argsToLocals, Value.category]; done) | rfl
def Q_rmAil (Z : State) (a1 : Addr) (zc : Int32) (h0 : Heap) (n0 : Nat) (v : Option Value) (h : Heap) (L : List Loc) : Prop := v = some (.int (1 : Int32)) ∧ Fr n0 L ∧ h = h0
set_option maxRecDepth 65536 in
set_option maxHeartbeats 40000000 in
theorem rmAil (l : Launch) (Z : State) (a0 : Array Value) (hw : ∀ d ∈ tables_1, d.before a0 Z = true) (ws : List Jvm.Cond) (a1 : Addr) (zc : Int32) (h0 : Heap) (n0 : Nat) (Z0 : n0 ≤ h0.size) (pE_a1 : Exa Z h0 a1 "java/lang/StringBuilder") (pF_coder_a1 : Fld Z h0 a1 "java/lang/AbstractStringBuilder" "coder" "B" (.int (0 : Int32))) (pS_COMPACT_STRINGS : Sta Z Z.heap "java/lang/String" "COMPACT_STRINGS" "Z" (.int zc)) (pP5 : (¬ (zc = (0 : Int32)))) (pO : Old Z n0 h0) :
    MetFree l (⟨"java/lang/AbstractStringBuilder", "isLatin1", "()Z"⟩ : MethodName) (head1 (Jvm.Cond.code (⟨"java/lang/AbstractStringBuilder", "isLatin1", "()Z"⟩ : MethodName) jdk_68_method_68_code 1 (some .boolean) :: ws) ({ frames := 0, cells := 0, slots := 0, locals := 0 } : Room)) (fun a U => a = #[(.ref a1)] ∧ Z.Warmed39 U.vm ∧ U.heap = h0) (fun _ _ _ _ _ => True) (fun _ U o U' => ∃ v L, o = .returned v ∧ Q_rmAil Z a1 zc h0 n0 v U'.heap L ∧ FrameEnd U o U' L ({ frames := 0, cells := 0, slots := 0, locals := 0 } : Room).cells ({ frames := 0, cells := 0, slots := 0, locals := 0 } : Room).slots) := by
  refine MetFree.of_bodySF (plainFor_of_name pn_28) hisR ?_
  intro p e s m args below meth c s₁ Bd hml0 hP hK
  obtain ⟨rfl, hZ, hh⟩ := hP
  have hx := Bd.exec
  have hby := Bd.bytes
  have hml : c.maxLocals = 1 := hml0
  have hown : s.vm.findClass "java/lang/AbstractStringBuilder" = some m.cls := findClass_of_methodNamed Bd.named
  have hnm := (name_of_methodNamed Bd.named Bd.method).1
  have X0 : Stand p l e ({ frames := 0, cells := 0, slots := 0, locals := 0 } : Room) s m #[(.ref a1)] below meth c s₁ [] 0 0 := Stand.of_body Bd
  have e0 : s₁.heap = h0 := by rw [← hh, Bd.state]; rfl
  have N0 := Fr.nil n0
  refine own_enter (ef_rmAil m a1) ?_
  obtain ⟨T1, X1, e1, st1⟩ := getS2 X0 hx hZ hown (host := "") (Or.inl (own_w hw 77 rfl)) Via.refl e0 (pS_COMPACT_STRINGS.ext pO.2) (g := (mkF m 0 #[.val (.ref a1)] [])) rfl (hb hby d28_0)
  refine own_st st1 ?_
  show own_Go p e below T1 (mkF m 3 #[.val (.ref a1)] [(.int zc)]) _
  refine own_st (fun t_ k_ => XS.ifNo X1.here hx rfl (hb hby d28_3) rfl ((if0 _ _).trans (feq pP5).1) (XS.aloadN X1.here hx rfl (hb hby d28_6) rfl rfl k_)) ?_
  show own_Go p e below T1 (mkF m 7 #[.val (.ref a1)] [(.ref a1)]) _
  obtain ⟨T2, X2, e2, st2⟩ := getF X1 hx hZ hown (host := "") (Or.inl (own_w hw 80 rfl)) Via.refl e1 pF_coder_a1 (g := (mkF m 7 #[.val (.ref a1)] [(.ref a1)])) rfl rfl (hb hby d28_7)
  refine own_st st2 ?_
  show own_Go p e below T2 (mkF m 10 #[.val (.ref a1)] [(.int (0 : Int32))]) _
  refine own_st (fun t_ k_ => XS.ifNo X2.here hx rfl (hb hby d28_10) rfl (by decide) (XS.iconst X2.here hx rfl (hb hby d28_13) (XS.goto X2.here hx rfl (pc0 := 14) (pc' := 18) rfl (hb hby d28_14) (by decide) (by decide) k_))) ?_
  show own_Go p e below T2 (mkF m 18 #[.val (.ref a1)] [(.int (1 : Int32))]) _
  obtain ⟨fs, hr, hrun, hended, hW, hsame⟩ := X2.leave (v := some (.int (1 : Int32))) (fun h => by rw [Bd.returns] at h; cases h)
  refine own_fin (retN X2 hx (t := .boolean) Bd.returns (by simp) (hb hby d28_18) hr) ⟨hrun, hended, _, _, rfl, ?_, ⟨_, rfl⟩, hW, hsame.mono (by decide) (by decide)⟩
  show Q_rmAil Z a1 zc h0 n0 _ T2.heap _
  rw [e2]
  exact ⟨rfl, N0, rfl⟩
theorem d24_0 : decode jdk_42_method_150_code 0 = .ok (.aload_n 0, 1) := by decide +kernel
theorem d24_1 : decode jdk_42_method_150_code 1 = .ok (.invokespecial 1, 3) := by decide +kernel
theorem d24_4 : decode jdk_42_method_150_code 4 = .ok (.aload_n 1, 1) := by decide +kernel
theorem d24_5 : decode jdk_42_method_150_code 5 = .ok (.invokevirtual 552, 3) := by decide +kernel
theorem d24_8 : decode jdk_42_method_150_code 8 = .ok (.astore_n 3, 1) := by decide +kernel
theorem d24_9 : decode jdk_42_method_150_code 9 = .ok (.aload_n 1, 1) := by decide +kernel
theorem d24_10 : decode jdk_42_method_150_code 10 = .ok (.invokevirtual 549, 3) := by decide +kernel
theorem d24_13 : decode jdk_42_method_150_code 13 = .ok (.istore 4, 2) := by decide +kernel
theorem d24_15 : decode jdk_42_method_150_code 15 = .ok (.aload_n 1, 1) := by decide +kernel
theorem d24_16 : decode jdk_42_method_150_code 16 = .ok (.invokevirtual 1047, 3) := by decide +kernel
theorem d24_19 : decode jdk_42_method_150_code 19 = .ok (.ifCond .eq 22, 3) := by decide +kernel
theorem d24_22 : decode jdk_42_method_150_code 22 = .ok (.aload_n 0, 1) := by decide +kernel
theorem d24_23 : decode jdk_42_method_150_code 23 = .ok (.iconst 0, 1) := by decide +kernel
theorem d24_24 : decode jdk_42_method_150_code 24 = .ok (.putfield 15, 3) := by decide +kernel
theorem d24_27 : decode jdk_42_method_150_code 27 = .ok (.aload_n 0, 1) := by decide +kernel
theorem d24_28 : decode jdk_42_method_150_code 28 = .ok (.aload_n 3, 1) := by decide +kernel
theorem d24_29 : decode jdk_42_method_150_code 29 = .ok (.iconst 0, 1) := by decide +kernel
theorem d24_30 : decode jdk_42_method_150_code 30 = .ok (.iload 4, 2) := by decide +kernel
theorem d24_32 : decode jdk_42_method_150_code 32 = .ok (.invokestatic 54, 3) := by decide +kernel
theorem d24_35 : decode jdk_42_method_150_code 35 = .ok (.putfield 9, 3) := by decide +kernel
theorem d24_38 : decode jdk_42_method_150_code 38 = .ok (.goto 59, 3) := by decide +kernel
theorem d24_97 : decode jdk_42_method_150_code 97 = .ok (.return_, 1) := by decide +kernel
theorem pn_24 : plainName "java/lang/String" = true := by first | (simp [plainName, overriddenIn]; done) | decide +kernel
theorem pd____B : parseMethodDescriptor "()[B" = some ⟨[], some (.array .byte)⟩ := by decide +kernel
theorem pd___Z : parseMethodDescriptor "()Z" = some ⟨[], some .boolean⟩ := by decide +kernel
theorem ef_rmSiA (m : MethodId) (x0 : Addr) (x1 : Addr) : entryFrame m #[(.ref x0), (.ref x1), .null] 5 = mkF m 0 #[.val (.ref x0), .val (.ref x1), .val .null, .unset, .unset] [] := by first | (simp [entryFrame, mkF, argsToLocals, Value.category]; done) | rfl
def Q_rmSiA (Z : State) (s1 : Addr) (u1 : Value) (u2 : Value) (a1 : Addr) (va : Addr) (kva : ClassId) (cap : Int32) (k : Int32) (bs : List Value) (rest : List Value) (zc : Int32) (h0 : Heap) (n0 : Nat) (v : Option Value) (h : Heap) (L : List Loc) : Prop := ∃ b : Addr, ∃ kb : ClassId, v = none ∧ Fr n0 L ∧ Keep h0 h [s1] ∧ Exa Z h s1 "java/lang/String" ∧ Fld Z h s1 "java/lang/String" "value" "[B" (.ref b) ∧ Fld Z h s1 "java/lang/String" "coder" "B" (.int (0 : Int32)) ∧ Arv Z h b kb .byte k bs (.int 0) ∧ h0.size ≤ b ∧ n0 ≤ b
set_option maxRecDepth 65536 in
set_option maxHeartbeats 40000000 in
theorem rmSiA (l : Launch) (Z : State) (a0 : Array Value) (hw : ∀ d ∈ tables_1, d.before a0 Z = true) (ws : List Jvm.Cond) (s1 : Addr) (u1 : Value) (u2 : Value) (a1 : Addr) (va : Addr) (kva : ClassId) (cap : Int32) (k : Int32) (bs : List Value) (rest : List Value) (zc : Int32) (h0 : Heap) (n0 : Nat) (Z0 : n0 ≤ h0.size) (pE_s1 : Exa Z h0 s1 "java/lang/String") (pF_value_s1 : Fld Z h0 s1 "java/lang/String" "value" "[B" u1) (pF_coder_s1 : Fld Z h0 s1 "java/lang/String" "coder" "B" u2) (pG_s1 : n0 ≤ s1) (pE_a1 : Exa Z h0 a1 "java/lang/StringBuilder") (pF_value_a1 : Fld Z h0 a1 "java/lang/AbstractStringBuilder" "value" "[B" (.ref va)) (pF_coder_a1 : Fld Z h0 a1 "java/lang/AbstractStringBuilder" "coder" "B" (.int (0 : Int32))) (pF_count_a1 : Fld Z h0 a1 "java/lang/AbstractStringBuilder" "count" "I" (.int k)) (pV_va : Arv Z h0 va kva .byte cap (bs ++ rest) (.int 0)) (hk : (k.toInt = (bs.length : Int))) (hcap : (cap.toInt = ((bs.length + rest.length : Nat) : Int))) (hlt : (0 < rest.length)) (hbig : (bs.length ≤ 16)) (pS_COMPACT_STRINGS : Sta Z Z.heap "java/lang/String" "COMPACT_STRINGS" "Z" (.int zc)) (pP5 : (¬ (zc = (0 : Int32)))) (pO : Old Z n0 h0) :
    MetFree l (⟨"java/lang/String", "<init>", "(Ljava/lang/AbstractStringBuilder;Ljava/lang/Void;)V"⟩ : MethodName) (head1 (Jvm.Cond.code (⟨"java/lang/String", "<init>", "(Ljava/lang/AbstractStringBuilder;Ljava/lang/Void;)V"⟩ : MethodName) jdk_42_method_150_code 5 none :: ws) ({ frames := 3, cells := 1, slots := 16, locals := 151 } : Room)) (fun a U => a = #[(.ref s1), (.ref a1), .null] ∧ Z.Warmed39 U.vm ∧ U.heap = h0) (fun _ _ _ _ _ => True) (fun _ U o U' => ∃ v L, o = .returned v ∧ Q_rmSiA Z s1 u1 u2 a1 va kva cap k bs rest zc h0 n0 v U'.heap L ∧ FrameEnd U o U' L ({ frames := 3, cells := 1, slots := 16, locals := 151 } : Room).cells ({ frames := 3, cells := 1, slots := 16, locals := 151 } : Room).slots) := by
  refine MetFree.of_bodySF (plainFor_of_name pn_24) hisR ?_
  intro p e s m args below meth c s₁ Bd hml0 hP hK
  obtain ⟨rfl, hZ, hh⟩ := hP
  have hx := Bd.exec
  have hby := Bd.bytes
  have hml : c.maxLocals = 5 := hml0
  have hown : s.vm.findClass "java/lang/String" = some m.cls := findClass_of_methodNamed Bd.named
  have hnm := (name_of_methodNamed Bd.named Bd.method).1
  have X0 : Stand p l e ({ frames := 3, cells := 1, slots := 16, locals := 151 } : Room) s m #[(.ref s1), (.ref a1), .null] below meth c s₁ [] 0 0 := Stand.of_body Bd
  have e0 : s₁.heap = h0 := by rw [← hh, Bd.state]; rfl
  have N0 := Fr.nil n0
  refine own_enter (ef_rmSiA m s1 a1) ?_
  refine own_st (fun t_ k_ => XS.aloadN X0.here hx rfl (hb hby d24_0) rfl rfl k_) ?_
  show own_Go p e below s₁ (mkF m 1 #[.val (.ref s1), .val (.ref a1), .val .null, .unset, .unset] [(.ref s1)]) _
  obtain ⟨T1, X1, e1, st1⟩ := initO X0 hx hZ hown (own_w hw 19 rfl) (own_w hw 20 rfl) (own_w hw 21 rfl) e0 (g := (mkF m 1 #[.val (.ref s1), .val (.ref a1), .val .null, .unset, .unset] [(.ref s1)])) rfl (by rw [hml]; rfl) rfl (hb hby d24_1) (by decide) (W := 0) (by show 2 * 0 + _ ≤ _; exact Nat.le_of_eq rfl) (by decide)
  refine own_st st1 ?_
  show own_Go p e below T1 (mkF m 4 #[.val (.ref s1), .val (.ref a1), .val .null, .unset, .unset] []) _
  refine own_st (fun t_ k_ => XS.aloadN X1.here hx rfl (hb hby d24_4) rfl rfl k_) ?_
  show own_Go p e below T1 (mkF m 5 #[.val (.ref s1), .val (.ref a1), .val .null, .unset, .unset] [(.ref a1)]) _
  obtain ⟨cq2, kq2, qa2, qb2, qc2⟩ := isOf hZ e1 pE_a1
  obtain ⟨_, _, ⟨T2, L2, k2, n2⟩, -, X2, ⟨Lc2, hQ2, l2, y2, z2⟩, st2⟩ := X1.virtualBack hx (y := (⟨"java/lang/AbstractStringBuilder", "getValue", "()[B"⟩ : MethodName)) (z := (⟨"java/lang/AbstractStringBuilder", "getValue", "()[B"⟩ : MethodName)) hown (mvT hZ (own_w hw 143 rfl)) (mvT hZ (own_w hw 144 rfl)) (notFace_of_selects (args := #[]) (mvT hZ (own_w hw 146 rfl))) (mvT hZ (own_w hw 146 rfl)) (mvT hZ (own_w hw 145 rfl)) (by decide) (backOf (W := 0) (rmGv l Z a0 hw [] a1 va h0 n0 Z0 pE_a1 pF_value_a1) hZ (own_w hw 147 rfl) (own_w hw 74 rfl) (by decide) (by decide)) qa2 qc2 (g := (mkF m 5 #[.val (.ref s1), .val (.ref a1), .val .null, .unset, .unset] [(.ref a1)])) rfl (by rw [hml]; rfl) (Steps.refl _) (argsL := []) (rest := []) (lenOf pd____B rfl) rfl (by show 2 * 0 + _ ≤ _; exact Nat.le_of_eq rfl) (hb hby d24_5) (fun _ _ => ⟨rfl, e1, (by decide : 0 + 0 ≤ _), (by decide : 0 + 0 ≤ _)⟩)
  dsimp only [Pt.U, Pt.locs, Pt.cells, Pt.slots] at X2 l2 y2 z2 st2 hQ2
  try dsimp only [Nat.reduceAdd] at y2 z2
  rw [l2, y2, z2] at X2
  obtain ⟨rfl, Nq2, eH2⟩ := hQ2
  have N2 := Fr.app N0 Nq2
  refine own_tr st2 ?_
  show own_Go p e below T2 (mkF m 8 #[.val (.ref s1), .val (.ref a1), .val .null, .unset, .unset] [(.ref va)]) _
  refine own_st (fun t_ k_ => XS.astoreN X2.here hx rfl (hb hby d24_8) rfl rfl (l' := #[.val (.ref s1), .val (.ref a1), .val .null, .val (.ref va), .unset]) rfl (XS.aloadN X2.here hx rfl (hb hby d24_9) rfl rfl k_)) ?_
  show own_Go p e below T2 (mkF m 10 #[.val (.ref s1), .val (.ref a1), .val .null, .val (.ref va), .unset] [(.ref a1)]) _
  obtain ⟨cq3, kq3, qa3, qb3, qc3⟩ := isOf hZ eH2 pE_a1
  obtain ⟨_, _, ⟨T3, L3, k3, n3⟩, -, X3, ⟨Lc3, hQ3, l3, y3, z3⟩, st3⟩ := X2.virtualBack hx (y := (⟨"java/lang/AbstractStringBuilder", "length", "()I"⟩ : MethodName)) (z := (⟨"java/lang/StringBuilder", "length", "()I"⟩ : MethodName)) hown (mvT hZ (own_w hw 148 rfl)) (mvT hZ (own_w hw 149 rfl)) (own_nf (a0 := #[]) (y' := (⟨"java/lang/AbstractStringBuilder", "getValue", "()[B"⟩ : MethodName)) (mvT hZ (own_w hw 146 rfl)) rfl) (mvT hZ (own_w hw 151 rfl)) (mvT hZ (own_w hw 152 rfl)) (by decide) (backOf (W := 0) (rmSl l Z a0 hw [] a1 k h0 n0 Z0 pE_a1 pF_count_a1) hZ (own_w hw 153 rfl) (own_w hw 66 rfl) (by decide) (by decide)) qa3 qc3 (g := (mkF m 10 #[.val (.ref s1), .val (.ref a1), .val .null, .val (.ref va), .unset] [(.ref a1)])) rfl (by rw [hml]; rfl) (Steps.refl _) (argsL := []) (rest := []) (lenOf pd___I rfl) rfl (by show 2 * 0 + _ ≤ _; exact Nat.le_of_eq rfl) (hb hby d24_10) (fun _ _ => ⟨rfl, eH2, (by decide : 0 + 0 ≤ _), (by decide : 0 + 0 ≤ _)⟩)
  dsimp only [Pt.U, Pt.locs, Pt.cells, Pt.slots] at X3 l3 y3 z3 st3 hQ3
  try dsimp only [Nat.reduceAdd] at y3 z3
  rw [l3, y3, z3] at X3
  obtain ⟨rfl, Nq3, eH3⟩ := hQ3
  have N3 := Fr.app N2 Nq3
  refine own_tr st3 ?_
  show own_Go p e below T3 (mkF m 13 #[.val (.ref s1), .val (.ref a1), .val .null, .val (.ref va), .unset] [(.int k)]) _
  refine own_st (fun t_ k_ => XS.istore X3.here hx rfl (hb hby d24_13) rfl (l' := #[.val (.ref s1), .val (.ref a1), .val .null, .val (.ref va), .val (.int k)]) rfl (XS.aloadN X3.here hx rfl (hb hby d24_15) rfl rfl k_)) ?_
  show own_Go p e below T3 (mkF m 16 #[.val (.ref s1), .val (.ref a1), .val .null, .val (.ref va), .val (.int k)] [(.ref a1)]) _
  obtain ⟨cq4, kq4, qa4, qb4, qc4⟩ := isOf hZ eH3 pE_a1
  obtain ⟨_, _, ⟨T4, L4, k4, n4⟩, -, X4, ⟨Lc4, hQ4, l4, y4, z4⟩, st4⟩ := X3.virtualBack hx (y := (⟨"java/lang/AbstractStringBuilder", "isLatin1", "()Z"⟩ : MethodName)) (z := (⟨"java/lang/AbstractStringBuilder", "isLatin1", "()Z"⟩ : MethodName)) hown (mvT hZ (own_w hw 156 rfl)) (mvT hZ (own_w hw 157 rfl)) (notFace_of_selects (args := #[]) (mvT hZ (own_w hw 159 rfl))) (mvT hZ (own_w hw 159 rfl)) (mvT hZ (own_w hw 158 rfl)) (by decide) (backOf (W := 0) (rmAil l Z a0 hw [] a1 zc h0 n0 Z0 pE_a1 pF_coder_a1 pS_COMPACT_STRINGS pP5 pO) hZ (own_w hw 160 rfl) (own_w hw 74 rfl) (by decide) (by decide)) qa4 qc4 (g := (mkF m 16 #[.val (.ref s1), .val (.ref a1), .val .null, .val (.ref va), .val (.int k)] [(.ref a1)])) rfl (by rw [hml]; rfl) (Steps.refl _) (argsL := []) (rest := []) (lenOf pd___Z rfl) rfl (by show 2 * 0 + _ ≤ _; exact Nat.le_of_eq rfl) (hb hby d24_16) (fun _ _ => ⟨rfl, eH3, (by decide : 0 + 0 ≤ _), (by decide : 0 + 0 ≤ _)⟩)
  dsimp only [Pt.U, Pt.locs, Pt.cells, Pt.slots] at X4 l4 y4 z4 st4 hQ4
  try dsimp only [Nat.reduceAdd] at y4 z4
  rw [l4, y4, z4] at X4
  obtain ⟨rfl, Nq4, eH4⟩ := hQ4
  have N4 := Fr.app N3 Nq4
  refine own_tr st4 ?_
  show own_Go p e below T4 (mkF m 19 #[.val (.ref s1), .val (.ref a1), .val .null, .val (.ref va), .val (.int k)] [(.int (1 : Int32))]) _
  refine own_st (fun t_ k_ => XS.ifNo X4.here hx rfl (hb hby d24_19) rfl (by decide) (XS.aloadN X4.here hx rfl (hb hby d24_22) rfl rfl (XS.iconst X4.here hx rfl (hb hby d24_23) k_))) ?_
  show own_Go p e below T4 (mkF m 24 #[.val (.ref s1), .val (.ref a1), .val .null, .val (.ref va), .val (.int k)] [(.int (0 : Int32)), (.ref s1)]) _
  obtain ⟨T5, h5, X5, e5, W5, st5⟩ := putFN X4 hx hZ hown (own_w hw 34 rfl) Via.refl eH4 pF_coder_s1 pE_s1 (Or.inr ⟨(own_w hw 35 rfl), rfl, hnm⟩) (own_w hw 10 rfl) (ty := .byte) (v' := (.int (0 : Int32))) (by decide) rfl (by decide) (g := (mkF m 24 #[.val (.ref s1), .val (.ref a1), .val .null, .val (.ref va), .val (.int k)] [(.int (0 : Int32)), (.ref s1)])) rfl rfl (hb hby d24_24)
  have F5 := pF_coder_s1.same W5
  have K6 : Keep h0 h5 [s1] := (Keep.refl h0 [s1]).wr W5 (Or.inl (List.mem_of_getElem? (i := 0) rfl))
  have N5 := Fr.snoc X5 N4 pG_s1
  refine own_st st5 ?_
  show own_Go p e below T5 (mkF m 27 #[.val (.ref s1), .val (.ref a1), .val .null, .val (.ref va), .val (.int k)] []) _
  refine own_st (fun t_ k_ => XS.aloadN X5.here hx rfl (hb hby d24_27) rfl rfl (XS.aloadN X5.here hx rfl (hb hby d24_28) rfl rfl (XS.iconst X5.here hx rfl (hb hby d24_29) (XS.iload X5.here hx rfl (hb hby d24_30) rfl k_)))) ?_
  show own_Go p e below T5 (mkF m 32 #[.val (.ref s1), .val (.ref a1), .val .null, .val (.ref va), .val (.int k)] [(.int k), (.int (0 : Int32)), (.ref va), (.ref s1)]) _
  have f7 := (Nat.le_trans Z0 (Keep.of_wr W5).1)
  have f8 := (pV_va.other W5 (Ne.symm (Exa.neArv pE_s1 pV_va (own_w hw 10 rfl))))
  obtain ⟨_, _, ⟨T9, L9, k9, n9⟩, -, X9, ⟨Lc9, hQ9, l9, y9, z9⟩, st9⟩ := Jvm.LawKit.callS X5 hx (y := (⟨"java/util/Arrays", "copyOfRange", "([BII)[B"⟩ : MethodName)) hown (mvT hZ (own_w hw 161 rfl)) (mvT hZ (own_w hw 162 rfl)) (mvT hZ (own_w hw 163 rfl)) (mvT hZ (own_w hw 164 rfl)) (by decide) (backOf (W := 1) (rmCp l Z a0 hw [] va kva cap k bs rest h5 n0 f7 f8 hk hcap hlt hbig) hZ (own_w hw 164 rfl) (own_w hw 163 rfl) (by decide) (by decide)) (g := (mkF m 32 #[.val (.ref s1), .val (.ref a1), .val .null, .val (.ref va), .val (.int k)] [(.int k), (.int (0 : Int32)), (.ref va), (.ref s1)])) rfl (by rw [hml]; rfl) (argsL := [(.ref va), (.int (0 : Int32)), (.int k)]) (rest := [(.ref s1)]) (lenOf pd___BII__B rfl) rfl (by show 2 * 0 + _ ≤ _; exact Nat.le_of_eq rfl) (hb hby d24_32) (fun _ _ => ⟨rfl, e5, (by decide : 0 + 1 ≤ _), (by decide : 0 + 16 ≤ _)⟩)
  dsimp only [Pt.U, Pt.locs, Pt.cells, Pt.slots] at X9 l9 y9 z9 st9 hQ9
  try dsimp only [Nat.reduceAdd] at y9 z9
  rw [l9, y9, z9] at X9
  obtain ⟨b_9, kb_9, rfl, Nq9, Kq9, q9_0, q9_1, q9_2⟩ := hQ9
  have N9 := Fr.app N5 Nq9
  have K10 : Keep h0 T9.heap [s1] := K6.trans Kq9 all0
  have Bf11 : h0.size ≤ b_9 := Nat.le_trans K6.1 q9_1
  refine own_st st9 ?_
  show own_Go p e below T9 (mkF m 35 #[.val (.ref s1), .val (.ref a1), .val .null, .val (.ref va), .val (.int k)] [(.ref b_9), (.ref s1)]) _
  have f12 := ((pE_s1.wr W5).keep Kq9)
  have f13 := ((pF_value_s1.other W5 (Or.inr (slot_ne (Or.inr (own_w hw 37 rfl)) (Or.inr (own_w hw 35 rfl)) (by decide) (t := (.array .byte)) (t' := .byte) (by decide) (by decide)))).keep Kq9 nin0)
  obtain ⟨T14, h14, X14, e14, W14, st14⟩ := putF X9 hx hZ hown (host := "") (Or.inl (own_w hw 36 rfl)) Via.refl rfl f13 f12 (Or.inr ⟨(own_w hw 37 rfl), rfl, hnm⟩) (own_w hw 10 rfl) (ty := (.array .byte)) (by decide) rfl rfl (g := (mkF m 35 #[.val (.ref s1), .val (.ref a1), .val .null, .val (.ref va), .val (.int k)] [(.ref b_9), (.ref s1)])) rfl rfl (hb hby d24_35)
  have F14 := f13.same W14
  have K15 : Keep h0 h14 [s1] := K10.wr W14 (Or.inl (List.mem_of_getElem? (i := 0) rfl))
  have N14 := Fr.snoc X14 N9 pG_s1
  refine own_st st14 ?_
  show own_Go p e below T14 (mkF m 38 #[.val (.ref s1), .val (.ref a1), .val .null, .val (.ref va), .val (.int k)] []) _
  refine own_st (fun t_ k_ => XS.goto X14.here hx rfl (pc0 := 38) (pc' := 97) rfl (hb hby d24_38) (by decide) (by decide) k_) ?_
  show own_Go p e below T14 (mkF m 97 #[.val (.ref s1), .val (.ref a1), .val .null, .val (.ref va), .val (.int k)] []) _
  have f16 := (f12.wr W14)
  have f17 := ((F5.keep Kq9 nin0).other W14 (Or.inr (slot_ne (Or.inr (own_w hw 35 rfl)) (Or.inr (own_w hw 37 rfl)) (by decide) (t := .byte) (t' := (.array .byte)) (by decide) (by decide))))
  have f18 := (q9_0.other W14 (Ne.symm (Nat.ne_of_lt (Nat.lt_of_lt_of_le (pE_s1.wr W5).lt q9_1))))
  obtain ⟨fs, hr, hrun, hended, hW, hsame⟩ := X14.leave (v := none) (fun _ => rfl)
  refine own_fin (X14.returnOut hx Bd.returns (hb hby d24_97) hr) ⟨hrun, hended, _, _, rfl, ?_, ⟨_, rfl⟩, hW, hsame.mono (by decide) (by decide)⟩
  show Q_rmSiA Z s1 u1 u2 a1 va kva cap k bs rest zc h0 n0 _ T14.heap _
  rw [e14]
  exact ⟨b_9, kb_9, rfl, N14, K15, f16, F14, f17, f18, Bf11, q9_2⟩
theorem d23_0 : decode jdk_42_method_53_code 0 = .ok (.aload_n 0, 1) := by decide +kernel
theorem d23_1 : decode jdk_42_method_53_code 1 = .ok (.aload_n 1, 1) := by decide +kernel
theorem d23_2 : decode jdk_42_method_53_code 2 = .ok (.aconst_null, 1) := by decide +kernel
theorem d23_3 : decode jdk_42_method_53_code 3 = .ok (.invokespecial 489, 3) := by decide +kernel
theorem d23_6 : decode jdk_42_method_53_code 6 = .ok (.return_, 1) := by decide +kernel
theorem pn_23 : plainName "java/lang/String" = true := by first | (simp [plainName, overriddenIn]; done) | decide +kernel
theorem pd__Ljava_lang_AbstractStringBuilder_Ljava_lang_Void__V : parseMethodDescriptor "(Ljava/lang/AbstractStringBuilder;Ljava/lang/Void;)V" = some ⟨[(.object "java/lang/AbstractStringBuilder"), (.object "java/lang/Void")], none⟩ := by decide +kernel
theorem ef_rmSiS (m : MethodId) (x0 : Addr) (x1 : Addr) : entryFrame m #[(.ref x0), (.ref x1)] 2 = mkF m 0 #[.val (.ref x0), .val (.ref x1)] [] := by first | (simp [entryFrame, mkF, argsToLocals, Value.category]; done) | rfl
def Q_rmSiS (Z : State) (s1 : Addr) (u1 : Value) (u2 : Value) (a1 : Addr) (va : Addr) (kva : ClassId) (cap : Int32) (k : Int32) (bs : List Value) (rest : List Value) (zc : Int32) (h0 : Heap) (n0 : Nat) (v : Option Value) (h : Heap) (L : List Loc) : Prop := ∃ b : Addr, ∃ kb : ClassId, v = none ∧ Fr n0 L ∧ Keep h0 h [s1] ∧ Exa Z h s1 "java/lang/String" ∧ Fld Z h s1 "java/lang/String" "value" "[B" (.ref b) ∧ Fld Z h s1 "java/lang/String" "coder" "B" (.int (0 : Int32)) ∧ Arv Z h b kb .byte k bs (.int 0) ∧ h0.size ≤ b ∧ n0 ≤ b
set_option maxRecDepth 65536 in
set_option maxHeartbeats 40000000 in
theorem rmSiS (l : Launch) (Z : State) (a0 : Array Value) (hw : ∀ d ∈ tables_1, d.before a0 Z = true) (ws : List Jvm.Cond) (s1 : Addr) (u1 : Value) (u2 : Value) (a1 : Addr) (va : Addr) (kva : ClassId) (cap : Int32) (k : Int32) (bs : List Value) (rest : List Value) (zc : Int32) (h0 : Heap) (n0 : Nat) (Z0 : n0 ≤ h0.size) (pE_s1 : Exa Z h0 s1 "java/lang/String") (pF_value_s1 : Fld Z h0 s1 "java/lang/String" "value" "[B" u1) (pF_coder_s1 : Fld Z h0 s1 "java/lang/String" "coder" "B" u2) (pG_s1 : n0 ≤ s1) (pE_a1 : Exa Z h0 a1 "java/lang/StringBuilder") (pF_value_a1 : Fld Z h0 a1 "java/lang/AbstractStringBuilder" "value" "[B" (.ref va)) (pF_coder_a1 : Fld Z h0 a1 "java/lang/AbstractStringBuilder" "coder" "B" (.int (0 : Int32))) (pF_count_a1 : Fld Z h0 a1 "java/lang/AbstractStringBuilder" "count" "I" (.int k)) (pV_va : Arv Z h0 va kva .byte cap (bs ++ rest) (.int 0)) (hk : (k.toInt = (bs.length : Int))) (hcap : (cap.toInt = ((bs.length + rest.length : Nat) : Int))) (hlt : (0 < rest.length)) (hbig : (bs.length ≤ 16)) (pS_COMPACT_STRINGS : Sta Z Z.heap "java/lang/String" "COMPACT_STRINGS" "Z" (.int zc)) (pP5 : (¬ (zc = (0 : Int32)))) (pO : Old Z n0 h0) :
    MetFree l (⟨"java/lang/String", "<init>", "(Ljava/lang/StringBuilder;)V"⟩ : MethodName) (head1 (Jvm.Cond.code (⟨"java/lang/String", "<init>", "(Ljava/lang/StringBuilder;)V"⟩ : MethodName) jdk_42_method_53_code 2 none :: ws) ({ frames := 4, cells := 1, slots := 16, locals := 167 } : Room)) (fun a U => a = #[(.ref s1), (.ref a1)] ∧ Z.Warmed39 U.vm ∧ U.heap = h0) (fun _ _ _ _ _ => True) (fun _ U o U' => ∃ v L, o = .returned v ∧ Q_rmSiS Z s1 u1 u2 a1 va kva cap k bs rest zc h0 n0 v U'.heap L ∧ FrameEnd U o U' L ({ frames := 4, cells := 1, slots := 16, locals := 167 } : Room).cells ({ frames := 4, cells := 1, slots := 16, locals := 167 } : Room).slots) := by
  refine MetFree.of_bodySF (plainFor_of_name pn_23) hisR ?_
  intro p e s m args below meth c s₁ Bd hml0 hP hK
  obtain ⟨rfl, hZ, hh⟩ := hP
  have hx := Bd.exec
  have hby := Bd.bytes
  have hml : c.maxLocals = 2 := hml0
  have hown : s.vm.findClass "java/lang/String" = some m.cls := findClass_of_methodNamed Bd.named
  have hnm := (name_of_methodNamed Bd.named Bd.method).1
  have X0 : Stand p l e ({ frames := 4, cells := 1, slots := 16, locals := 167 } : Room) s m #[(.ref s1), (.ref a1)] below meth c s₁ [] 0 0 := Stand.of_body Bd
  have e0 : s₁.heap = h0 := by rw [← hh, Bd.state]; rfl
  have N0 := Fr.nil n0
  refine own_enter (ef_rmSiS m s1 a1) ?_
  refine own_st (fun t_ k_ => XS.aloadN X0.here hx rfl (hb hby d23_0) rfl rfl (XS.aloadN X0.here hx rfl (hb hby d23_1) rfl rfl (XS.aconstNull X0.here hx rfl (hb hby d23_2) k_))) ?_
  show own_Go p e below s₁ (mkF m 3 #[.val (.ref s1), .val (.ref a1)] [.null, (.ref a1), (.ref s1)]) _
  obtain ⟨_, _, ⟨T1, L1, k1, n1⟩, -, X1, ⟨Lc1, hQ1, l1, y1, z1⟩, st1⟩ := X0.specialBack hx (y := (⟨"java/lang/String", "<init>", "(Ljava/lang/AbstractStringBuilder;Ljava/lang/Void;)V"⟩ : MethodName)) rfl hown (mvT hZ (own_w hw 140 rfl)) (mvT hZ (own_w hw 141 rfl)) (mvT hZ (own_w hw 142 rfl)) (by decide) (backOf (W := 0) (rmSiA l Z a0 hw [] s1 u1 u2 a1 va kva cap k bs rest zc h0 n0 Z0 pE_s1 pF_value_s1 pF_coder_s1 pG_s1 pE_a1 pF_value_a1 pF_coder_a1 pF_count_a1 pV_va hk hcap hlt hbig pS_COMPACT_STRINGS pP5 pO) hZ (own_w hw 142 rfl) (own_w hw 11 rfl) (by decide) (by decide)) (g := (mkF m 3 #[.val (.ref s1), .val (.ref a1)] [.null, (.ref a1), (.ref s1)])) rfl (by rw [hml]; rfl) (Steps.refl _) (a := s1) (argsL := [(.ref a1), .null]) (rest := []) (lenOf pd__Ljava_lang_AbstractStringBuilder_Ljava_lang_Void__V rfl) rfl (by show 2 * 0 + _ ≤ _; exact Nat.le_of_eq rfl) (hb hby d23_3) (fun _ _ => ⟨rfl, e0, (by decide : 0 + 1 ≤ _), (by decide : 0 + 16 ≤ _)⟩)
  dsimp only [Pt.U, Pt.locs, Pt.cells, Pt.slots] at X1 l1 y1 z1 st1 hQ1
  try dsimp only [Nat.reduceAdd] at y1 z1
  rw [l1, y1, z1] at X1
  obtain ⟨b_1, kb_1, rfl, Nq1, Kq1, q1_0, q1_1, q1_2, q1_3, q1_4, q1_5⟩ := hQ1
  have N1 := Fr.app N0 Nq1
  have K2 : Keep h0 T1.heap [s1] := (Keep.refl h0 [s1]).trans Kq1 (allS (Or.inl (List.mem_of_getElem? (i := 0) rfl)) all0)
  have Bf3 : h0.size ≤ b_1 := Nat.le_trans (Keep.refl h0 [s1]).1 q1_4
  refine own_tr st1 ?_
  show own_Go p e below T1 (mkF m 6 #[.val (.ref s1), .val (.ref a1)] []) _
  obtain ⟨fs, hr, hrun, hended, hW, hsame⟩ := X1.leave (v := none) (fun _ => rfl)
  refine own_fin (X1.returnOut hx Bd.returns (hb hby d23_6) hr) ⟨hrun, hended, _, _, rfl, ?_, ⟨_, rfl⟩, hW, hsame.mono (by decide) (by decide)⟩
  show Q_rmSiS Z s1 u1 u2 a1 va kva cap k bs rest zc h0 n0 _ T1.heap _
  exact ⟨b_1, kb_1, rfl, N1, K2, q1_0, q1_1, q1_2, q1_3, Bf3, q1_5⟩
theorem d22_0 : decode jdk_67_method_42_code 0 = .ok (.new 18, 3) := by decide +kernel
theorem d22_3 : decode jdk_67_method_42_code 3 = .ok (.dup, 1) := by decide +kernel
theorem d22_4 : decode jdk_67_method_42_code 4 = .ok (.aload_n 0, 1) := by decide +kernel
theorem d22_5 : decode jdk_67_method_42_code 5 = .ok (.invokespecial 137, 3) := by decide +kernel
theorem d22_8 : decode jdk_67_method_42_code 8 = .ok (.areturn, 1) := by decide +kernel
theorem pn_22 : plainName "java/lang/StringBuilder" = true := by first | (simp [plainName, overriddenIn]; done) | decide +kernel
theorem pd__Ljava_lang_StringBuilder__V : parseMethodDescriptor "(Ljava/lang/StringBuilder;)V" = some ⟨[(.object "java/lang/StringBuilder")], none⟩ := by decide +kernel
theorem ef_rmTs (m : MethodId) (x0 : Addr) : entryFrame m #[(.ref x0)] 1 = mkF m 0 #[.val (.ref x0)] [] := by first | (simp [entryFrame, mkF, argsToLocals, Value.category]; done) | rfl
def Q_rmTs (Z : State) (a1 : Addr) (va : Addr) (kva : ClassId) (cap : Int32) (k : Int32) (bs : List Value) (rest : List Value) (zc : Int32) (h0 : Heap) (n0 : Nat) (v : Option Value) (h : Heap) (L : List Loc) : Prop := ∃ y : Addr, ∃ b : Addr, ∃ kb : ClassId, v = some (.ref y) ∧ Fr n0 L ∧ Keep h0 h [] ∧ Exa Z h y "java/lang/String" ∧ Fld Z h y "java/lang/String" "value" "[B" (.ref b) ∧ Fld Z h y "java/lang/String" "coder" "B" (.int (0 : Int32)) ∧ Arv Z h b kb .byte k bs (.int 0) ∧ h0.size ≤ b ∧ n0 ≤ b
set_option maxRecDepth 65536 in
set_option maxHeartbeats 40000000 in
theorem rmTs (l : Launch) (Z : State) (a0 : Array Value) (hw : ∀ d ∈ tables_1, d.before a0 Z = true) (ws : List Jvm.Cond) (a1 : Addr) (va : Addr) (kva : ClassId) (cap : Int32) (k : Int32) (bs : List Value) (rest : List Value) (zc : Int32) (h0 : Heap) (n0 : Nat) (Z0 : n0 ≤ h0.size) (pE_a1 : Exa Z h0 a1 "java/lang/StringBuilder") (pF_value_a1 : Fld Z h0 a1 "java/lang/AbstractStringBuilder" "value" "[B" (.ref va)) (pF_coder_a1 : Fld Z h0 a1 "java/lang/AbstractStringBuilder" "coder" "B" (.int (0 : Int32))) (pF_count_a1 : Fld Z h0 a1 "java/lang/AbstractStringBuilder" "count" "I" (.int k)) (pV_va : Arv Z h0 va kva .byte cap (bs ++ rest) (.int 0)) (hk : (k.toInt = (bs.length : Int))) (hcap : (cap.toInt = ((bs.length + rest.length : Nat) : Int))) (hlt : (0 < rest.length)) (hbig : (bs.length ≤ 16)) (pS_COMPACT_STRINGS : Sta Z Z.heap "java/lang/String" "COMPACT_STRINGS" "Z" (.int zc)) (pP5 : (¬ (zc = (0 : Int32)))) (pO : Old Z n0 h0) :
    MetFree l (⟨"java/lang/StringBuilder", "toString", "()Ljava/lang/String;"⟩ : MethodName) (head1 (Jvm.Cond.code (⟨"java/lang/StringBuilder", "toString", "()Ljava/lang/String;"⟩ : MethodName) jdk_67_method_42_code 1 (some (.object "java/lang/String")) :: ws) ({ frames := 5, cells := 2, slots := 20, locals := 181 } : Room)) (fun a U => a = #[(.ref a1)] ∧ Z.Warmed39 U.vm ∧ U.heap = h0) (fun _ _ _ _ _ => True) (fun _ U o U' => ∃ v L, o = .returned v ∧ Q_rmTs Z a1 va kva cap k bs rest zc h0 n0 v U'.heap L ∧ FrameEnd U o U' L ({ frames := 5, cells := 2, slots := 20, locals := 181 } : Room).cells ({ frames := 5, cells := 2, slots := 20, locals := 181 } : Room).slots) := by
  refine MetFree.of_bodySF (plainFor_of_name pn_22) hisR ?_
  intro p e s m args below meth c s₁ Bd hml0 hP hK
  obtain ⟨rfl, hZ, hh⟩ := hP
  have hx := Bd.exec
  have hby := Bd.bytes
  have hml : c.maxLocals = 1 := hml0
  have hown : s.vm.findClass "java/lang/StringBuilder" = some m.cls := findClass_of_methodNamed Bd.named
  have hnm := (name_of_methodNamed Bd.named Bd.method).1
  have X0 : Stand p l e ({ frames := 5, cells := 2, slots := 20, locals := 181 } : Room) s m #[(.ref a1)] below meth c s₁ [] 0 0 := Stand.of_body Bd
  have e0 : s₁.heap = h0 := by rw [← hh, Bd.state]; rfl
  have N0 := Fr.nil n0
  refine own_enter (ef_rmTs m a1) ?_
  obtain ⟨T1, h1, X1, e1, E1, A1, D1, -, st1⟩ := newO X0 hx hZ hown (own_w hw 136 rfl) (own_w hw 10 rfl) (own_w hw 11 rfl) e0 (g := (mkF m 0 #[.val (.ref a1)] [])) rfl (hb hby d22_0) (by decide) (by decide)
  obtain ⟨b1, g1⟩ : ∃ z, z = h0.size := ⟨_, rfl⟩
  rw [← g1] at A1 D1 st1
  have G1 : n0 ≤ b1 := Nat.le_trans Z0 (Nat.le_of_eq g1.symm)
  have B1 : h0.size ≤ b1 := Nat.le_trans (Keep.refl h0 []).1 (Nat.le_of_eq g1.symm)
  have K2 : Keep h0 h1 [] := (Keep.refl h0 []).ext E1
  have D1_coder : Fld Z h1 b1 "java/lang/String" "coder" "B" (.int (0 : Int32)) := D1 (Or.inr (own_w hw 35 rfl)) (ty := .byte) (by decide)
  have D1_value : Fld Z h1 b1 "java/lang/String" "value" "[B" .null := D1 (Or.inr (own_w hw 37 rfl)) (ty := (.array .byte)) (by decide)
  refine own_st st1 ?_
  show own_Go p e below T1 (mkF m 3 #[.val (.ref a1)] [(.ref b1)]) _
  refine own_st (fun t_ k_ => XS.dup X1.here hx rfl (hb hby d22_3) rfl rfl (XS.aloadN X1.here hx rfl (hb hby d22_4) rfl rfl k_)) ?_
  show own_Go p e below T1 (mkF m 5 #[.val (.ref a1)] [(.ref a1), (.ref b1), (.ref b1)]) _
  have f3 := (Nat.le_trans Z0 E1.1)
  have f4 := (pE_a1.ext E1)
  have f5 := (pF_value_a1.ext E1)
  have f6 := (pF_coder_a1.ext E1)
  have f7 := (pF_count_a1.ext E1)
  have f8 := (pV_va.ext E1)
  have f9 := (pO.ext E1)
  obtain ⟨_, _, ⟨T10, L10, k10, n10⟩, -, X10, ⟨Lc10, hQ10, l10, y10, z10⟩, st10⟩ := X1.specialBack hx (y := (⟨"java/lang/String", "<init>", "(Ljava/lang/StringBuilder;)V"⟩ : MethodName)) rfl hown (mvT hZ (own_w hw 137 rfl)) (mvT hZ (own_w hw 138 rfl)) (mvT hZ (own_w hw 139 rfl)) (by decide) (backOf (W := 1) (rmSiS l Z a0 hw [] b1 .null ((.int (0 : Int32))) a1 va kva cap k bs rest zc h1 n0 f3 A1 D1_value D1_coder G1 f4 f5 f6 f7 f8 hk hcap hlt hbig pS_COMPACT_STRINGS pP5 f9) hZ (own_w hw 139 rfl) (own_w hw 11 rfl) (by decide) (by decide)) (g := (mkF m 5 #[.val (.ref a1)] [(.ref a1), (.ref b1), (.ref b1)])) rfl (by rw [hml]; rfl) (Steps.refl _) (a := b1) (argsL := [(.ref a1)]) (rest := [(.ref b1)]) (lenOf pd__Ljava_lang_StringBuilder__V rfl) rfl (by show 2 * 0 + _ ≤ _; exact Nat.le_of_eq rfl) (hb hby d22_5) (fun _ _ => ⟨rfl, e1, (by decide : 1 + 1 ≤ _), (by decide : 4 + 16 ≤ _)⟩)
  dsimp only [Pt.U, Pt.locs, Pt.cells, Pt.slots] at X10 l10 y10 z10 st10 hQ10
  try dsimp only [Nat.reduceAdd] at y10 z10
  rw [l10, y10, z10] at X10
  obtain ⟨b_10, kb_10, rfl, Nq10, Kq10, q10_0, q10_1, q10_2, q10_3, q10_4, q10_5⟩ := hQ10
  have N10 := Fr.app N0 Nq10
  have K11 : Keep h0 T10.heap [] := K2.trans Kq10 (allS (Or.inr B1) all0)
  have Bf12 : h0.size ≤ b_10 := Nat.le_trans K2.1 q10_4
  refine own_tr st10 ?_
  show own_Go p e below T10 (mkF m 8 #[.val (.ref a1)] [(.ref b1)]) _
  obtain ⟨fs, hr, hrun, hended, hW, hsame⟩ := X10.leave (v := some (.ref b1)) (fun h => by rw [Bd.returns] at h; cases h)
  refine own_fin (own_retR X10 hx rfl Bd.returns rfl (hb hby d22_8) hr) ⟨hrun, hended, _, _, rfl, ?_, ⟨_, rfl⟩, hW, hsame.mono (by decide) (by decide)⟩
  show Q_rmTs Z a1 va kva cap k bs rest zc h0 n0 _ T10.heap _
  exact ⟨b1, b_10, kb_10, rfl, N10, K11, q10_0, q10_1, q10_2, q10_3, Bf12, q10_5⟩
theorem d4_0 : decode jdk_42_method_149_code 0 = .ok (.aload_n 0, 1) := by decide +kernel
theorem d4_1 : decode jdk_42_method_149_code 1 = .ok (.invokespecial 1, 3) := by decide +kernel
theorem d4_4 : decode jdk_42_method_149_code 4 = .ok (.iload_n 3, 1) := by decide +kernel
theorem d4_5 : decode jdk_42_method_149_code 5 = .ok (.ifCond .ne 22, 3) := by decide +kernel
theorem d4_8 : decode jdk_42_method_149_code 8 = .ok (.aload_n 0, 1) := by decide +kernel
theorem d4_9 : decode jdk_42_method_149_code 9 = .ok (.ldc 7, 2) := by decide +kernel
theorem d4_11 : decode jdk_42_method_149_code 11 = .ok (.getfield 9, 3) := by decide +kernel
theorem d4_14 : decode jdk_42_method_149_code 14 = .ok (.putfield 9, 3) := by decide +kernel
theorem d4_17 : decode jdk_42_method_149_code 17 = .ok (.aload_n 0, 1) := by decide +kernel
theorem d4_18 : decode jdk_42_method_149_code 18 = .ok (.ldc 7, 2) := by decide +kernel
theorem d4_20 : decode jdk_42_method_149_code 20 = .ok (.getfield 15, 3) := by decide +kernel
theorem d4_23 : decode jdk_42_method_149_code 23 = .ok (.putfield 15, 3) := by decide +kernel
theorem d4_26 : decode jdk_42_method_149_code 26 = .ok (.return_, 1) := by decide +kernel
theorem pn_4 : plainName "java/lang/String" = true := by first | (simp [plainName, overriddenIn]; done) | decide +kernel
theorem ef_rmS0 (m : MethodId) (x0 : Addr) (x1 : Addr) (x2 : Int32) (x3 : Int32) : entryFrame m #[(.ref x0), (.ref x1), (.int x2), (.int x3), .null] 6 = mkF m 0 #[.val (.ref x0), .val (.ref x1), .val (.int x2), .val (.int x3), .val .null, .unset] [] := by first | (simp [entryFrame, mkF, argsToLocals, Value.category]; done) | rfl
def Q_rmS0 (Z : State) (a1 : Addr) (a2 : Addr) (h0 : Heap) (n0 : Nat) (v : Option Value) (h : Heap) (L : List Loc) : Prop := ∃ t : Addr, ∃ kb : ClassId, v = none ∧ Fr n0 L ∧ Keep h0 h [a1] ∧ Exa Z h a1 "java/lang/String" ∧ Fld Z h a1 "java/lang/String" "value" "[B" (.ref t) ∧ Fld Z h a1 "java/lang/String" "coder" "B" (.int (0 : Int32)) ∧ Arv Z h t kb .byte (0 : Int32) [] (.int 0)
set_option maxRecDepth 65536 in
set_option maxHeartbeats 40000000 in
theorem rmS0 (l : Launch) (Z : State) (a0 : Array Value) (hw : ∀ d ∈ tables_1, d.before a0 Z = true) (ws : List Jvm.Cond) (a1 : Addr) (a2 : Addr) (h0 : Heap) (n0 : Nat) (Z0 : n0 ≤ h0.size) (pE_a1 : Exa Z h0 a1 "java/lang/String") (pF_value_a1 : Fld Z h0 a1 "java/lang/String" "value" "[B" .null) (pF_coder_a1 : Fld Z h0 a1 "java/lang/String" "coder" "B" (.int (0 : Int32))) (pG_a1 : n0 ≤ a1) :
    MetFree l (⟨"java/lang/String", "<init>", "([CIILjava/lang/Void;)V"⟩ : MethodName) (head1 (Jvm.Cond.code (⟨"java/lang/String", "<init>", "([CIILjava/lang/Void;)V"⟩ : MethodName) jdk_42_method_149_code 6 none :: ws) ({ frames := 1, cells := 4, slots := 8, locals := 12 } : Room)) (fun a U => a = #[(.ref a1), (.ref a2), (.int (0 : Int32)), (.int (0 : Int32)), .null] ∧ Z.Warmed39 U.vm ∧ U.heap = h0 ∧ CHv Z own_EL U.vm h0) (fun _ _ _ _ _ => True) (fun _ U o U' => ∃ v L, o = .returned v ∧ Q_rmS0 Z a1 a2 h0 n0 v U'.heap L ∧ CHr Z own_EL U.vm U.heap U'.vm U'.heap ∧ ReturnedEndW U o U' L ({ frames := 1, cells := 4, slots := 8, locals := 12 } : Room).cells ({ frames := 1, cells := 4, slots := 8, locals := 12 } : Room).slots) := by
  refine MetFree.of_bodySF (plainFor_of_name pn_4) hisR ?_
  intro p e s m args below meth c s₁ Bd hml0 hP hK
  obtain ⟨rfl, hZ, hh, hCH⟩ := hP
  have hx := Bd.exec
  have hby := Bd.bytes
  have hml : c.maxLocals = 6 := hml0
  have hown : s.vm.findClass "java/lang/String" = some m.cls := findClass_of_methodNamed Bd.named
  have hnm := (name_of_methodNamed Bd.named Bd.method).1
  have X0 : Stand p l e ({ frames := 1, cells := 4, slots := 8, locals := 12 } : Room) (s.setVm s.vm) m #[(.ref a1), (.ref a2), (.int (0 : Int32)), (.int (0 : Int32)), .null] below meth c s₁ [] 0 0 := Stand.of_body Bd
  have e0 : s₁.heap = h0 := by rw [← hh, Bd.state]; rfl
  have N0 := Fr.nil n0
  have hEL := own_EW hw
  have hCR := CHr.refl hCH
  have hS : s.Since s.vm h0.size := (State.WarmedH.refl s).since _
  have hK0 : h0.size ≤ h0.size := Nat.le_refl _
  refine own_enter (ef_rmS0 m a1 a2 ((0 : Int32)) ((0 : Int32))) ?_
  have hsf : Safe Z own_EL s.vm h0 a1 := own_sfn hZ.alike pE_a1 pF_value_a1
  refine own_st (fun t_ k_ => XS.aloadN X0.here hx rfl (hb hby d4_0) rfl rfl k_) ?_
  show own_Go p e below s₁ (mkF m 1 #[.val (.ref a1), .val (.ref a2), .val (.int (0 : Int32)), .val (.int (0 : Int32)), .val .null, .unset] [(.ref a1)]) _
  obtain ⟨T1, X1, e1, st1⟩ := initO X0 hx hZ hown (own_w hw 19 rfl) (own_w hw 20 rfl) (own_w hw 21 rfl) e0 (g := (mkF m 1 #[.val (.ref a1), .val (.ref a2), .val (.int (0 : Int32)), .val (.int (0 : Int32)), .val .null, .unset] [(.ref a1)])) rfl (by rw [hml]; rfl) rfl (hb hby d4_1) (by decide) (W := 0) (by show 2 * 0 + _ ≤ _; exact Nat.le_of_eq rfl) (by decide)
  refine own_st st1 ?_
  show own_Go p e below T1 (mkF m 4 #[.val (.ref a1), .val (.ref a2), .val (.int (0 : Int32)), .val (.int (0 : Int32)), .val .null, .unset] []) _
  refine own_st (fun t_ k_ => XS.iloadN X1.here hx rfl (hb hby d4_4) rfl (XS.ifNo X1.here hx rfl (hb hby d4_5) rfl (by decide) (XS.aloadN X1.here hx rfl (hb hby d4_8) rfl rfl k_))) ?_
  show own_Go p e below T1 (mkF m 9 #[.val (.ref a1), .val (.ref a2), .val (.int (0 : Int32)), .val (.int (0 : Int32)), .val .null, .unset] [(.ref a1)]) _
  obtain ⟨b2, T2, h2, k2, t2, kb2, X2, e2, E2, hS, hk2, hZ, hown, xE2, xC2, xV2, xA2, -, -, A2, -, -, st2⟩ := ldcCH X1 hx hZ hown (own_w hw 38 rfl) (own_wS hw) e1 hS hK0 hEL (List.mem_of_getElem? (i := 2) rfl) hCH (vs := []) (z := (0 : Int32)) (by decide +kernel) (by decide) (by decide) (g := (mkF m 9 #[.val (.ref a1), .val (.ref a2), .val (.int (0 : Int32)), .val (.int (0 : Int32)), .val .null, .unset] [(.ref a1)])) rfl (hb hby d4_9) (n := 0) (by decide) (by decide) (by decide) (by decide)
  have CH3 := A2.1
  have CR3 := CHr.trans hCR (A2)
  have K4 : Keep h0 h2 [a1] := (Keep.refl h0 [a1]).ext E2
  refine own_st st2 ?_
  show own_Go p e below T2 (mkF m 11 #[.val (.ref a1), .val (.ref a2), .val (.int (0 : Int32)), .val (.int (0 : Int32)), .val .null, .unset] [(.ref b2), (.ref a1)]) _
  obtain ⟨T5, X5, e5, st5⟩ := getF X2 hx hZ hown (host := "") (Or.inl (own_w hw 36 rfl)) Via.refl e2 xV2 (g := (mkF m 11 #[.val (.ref a1), .val (.ref a2), .val (.int (0 : Int32)), .val (.int (0 : Int32)), .val .null, .unset] [(.ref b2), (.ref a1)])) rfl rfl (hb hby d4_11)
  refine own_st st5 ?_
  show own_Go p e below T5 (mkF m 14 #[.val (.ref a1), .val (.ref a2), .val (.int (0 : Int32)), .val (.int (0 : Int32)), .val .null, .unset] [(.ref t2), (.ref a1)]) _
  have f6 := (pE_a1.ext E2)
  have f7 := (pF_value_a1.ext E2)
  obtain ⟨T8, h8, X8, e8, W8, st8⟩ := putF X5 hx hZ hown (host := "") (Or.inl (own_w hw 36 rfl)) Via.refl e5 f7 f6 (Or.inr ⟨(own_w hw 37 rfl), rfl, hnm⟩) (own_w hw 10 rfl) (ty := (.array .byte)) (by decide) rfl rfl (g := (mkF m 14 #[.val (.ref a1), .val (.ref a2), .val (.int (0 : Int32)), .val (.int (0 : Int32)), .val .null, .unset] [(.ref t2), (.ref a1)])) rfl rfl (hb hby d4_14)
  have F8 := f7.same W8
  have f10 := (CHr.safe A2 pE_a1.lt hsf)
  have Sa9 : Safe Z own_EL T2.vm h2 a1 := f10
  have CH9 := CH3.wr W8 Sa9
  have CR9 := CHr.trans CR3 (CHr.wr W8 Sa9 CH3)
  have K11 : Keep h0 h8 [a1] := K4.wr W8 (Or.inl (List.mem_of_getElem? (i := 0) rfl))
  have N8 := Fr.snoc X8 N0 pG_a1
  refine own_st st8 ?_
  show own_Go p e below T8 (mkF m 17 #[.val (.ref a1), .val (.ref a2), .val (.int (0 : Int32)), .val (.int (0 : Int32)), .val .null, .unset] []) _
  refine own_st (fun t_ k_ => XS.aloadN X8.here hx rfl (hb hby d4_17) rfl rfl k_) ?_
  show own_Go p e below T8 (mkF m 18 #[.val (.ref a1), .val (.ref a2), .val (.int (0 : Int32)), .val (.int (0 : Int32)), .val .null, .unset] [(.ref a1)]) _
  have f13 := (Nat.le_trans hk2 (Keep.of_wr W8).1)
  obtain ⟨b12, T12, h12, k12, t12, kb12, X12, e12, E12, hS, hk12, hZ, hown, xE12, xC12, xV12, xA12, -, -, A12, -, -, st12⟩ := ldcCH X8 hx hZ hown (own_w hw 38 rfl) (own_wS hw) e8 hS f13 hEL (List.mem_of_getElem? (i := 2) rfl) CH9 (vs := []) (z := (0 : Int32)) (by decide +kernel) (by decide) (by decide) (g := (mkF m 18 #[.val (.ref a1), .val (.ref a2), .val (.int (0 : Int32)), .val (.int (0 : Int32)), .val .null, .unset] [(.ref a1)])) rfl (hb hby d4_18) (n := 0) (by decide) (by decide) (by decide) (by decide)
  have CH14 := A12.1
  have CR14 := CHr.trans CR9 (A12)
  have K15 : Keep h0 h12 [a1] := K11.ext E12
  refine own_st st12 ?_
  show own_Go p e below T12 (mkF m 20 #[.val (.ref a1), .val (.ref a2), .val (.int (0 : Int32)), .val (.int (0 : Int32)), .val .null, .unset] [(.ref b12), (.ref a1)]) _
  obtain ⟨T16, X16, e16, st16⟩ := getF X12 hx hZ hown (host := "") (Or.inl (own_w hw 34 rfl)) Via.refl e12 xC12 (g := (mkF m 20 #[.val (.ref a1), .val (.ref a2), .val (.int (0 : Int32)), .val (.int (0 : Int32)), .val .null, .unset] [(.ref b12), (.ref a1)])) rfl rfl (hb hby d4_20)
  refine own_st st16 ?_
  show own_Go p e below T16 (mkF m 23 #[.val (.ref a1), .val (.ref a2), .val (.int (0 : Int32)), .val (.int (0 : Int32)), .val .null, .unset] [(.int (0 : Int32)), (.ref a1)]) _
  have f17 := ((f6.wr W8).ext E12)
  have f18 := (((pF_coder_a1.ext E2).other W8 (Or.inr (slot_ne (Or.inr (own_w hw 35 rfl)) (Or.inr (own_w hw 37 rfl)) (by decide) (t := .byte) (t' := (.array .byte)) (by decide) (by decide)))).ext E12)
  obtain ⟨T19, h19, X19, e19, W19, st19⟩ := putFN X16 hx hZ hown (own_w hw 34 rfl) Via.refl e16 f18 f17 (Or.inr ⟨(own_w hw 35 rfl), rfl, hnm⟩) (own_w hw 10 rfl) (ty := .byte) (v' := (.int (0 : Int32))) (by decide) rfl (by decide) (g := (mkF m 23 #[.val (.ref a1), .val (.ref a2), .val (.int (0 : Int32)), .val (.int (0 : Int32)), .val .null, .unset] [(.int (0 : Int32)), (.ref a1)])) rfl rfl (hb hby d4_23)
  have F19 := f18.same W19
  have f21 := (CHr.safe A12 (f6.wr W8).lt (Safe.wr W8 Sa9 CH3 f10))
  have Sa20 : Safe Z own_EL T12.vm h12 a1 := f21
  have CH20 := CH14.wr W19 Sa20
  have CR20 := CHr.trans CR14 (CHr.wr W19 Sa20 CH14)
  have K22 : Keep h0 h19 [a1] := K15.wr W19 (Or.inl (List.mem_of_getElem? (i := 0) rfl))
  have N19 := Fr.snoc X19 N8 pG_a1
  refine own_st st19 ?_
  show own_Go p e below T19 (mkF m 26 #[.val (.ref a1), .val (.ref a2), .val (.int (0 : Int32)), .val (.int (0 : Int32)), .val .null, .unset] []) _
  have f23 := (f17.wr W19)
  have f24 := ((F8.ext E12).other W19 (Or.inr (slot_ne (Or.inr (own_w hw 37 rfl)) (Or.inr (own_w hw 35 rfl)) (by decide) (t := (.array .byte)) (t' := .byte) (by decide) (by decide))))
  have f25 := (((xA2.other W8 (Ne.symm (Exa.neArv f6 xA2 (own_w hw 10 rfl)))).ext E12).other W19 (Ne.symm (Exa.neArv f6 xA2 (own_w hw 10 rfl))))
  have f26 := (Nat.le_trans hk12 (Keep.of_wr W19).1)
  obtain ⟨fs, hr, hrun, hended, hRW⟩ := X19.leaveW hS (by rw [e19]; exact f26) (v := none) (fun _ => rfl)
  have hCend : CHr Z own_EL s.vm s.heap T19.vm T19.heap := by
    rw [hh, e19]
    exact CHr.trans CR20 (CHv.at X19 hZ hEL CH20)
  refine own_fin (X19.returnOut hx Bd.returns (hb hby d4_26) hr) ⟨hrun, hended, _, _, rfl, ?_, hCend, hRW.1, hRW.2.1, hRW.2.2.1, hRW.2.2.2.mono (by decide) (by decide)⟩
  show Q_rmS0 Z a1 a2 h0 n0 _ T19.heap _
  rw [e19]
  exact ⟨t2, kb2, rfl, N19, K22, f23, f24, F19, f25⟩
theorem d3_0 : decode jdk_42_method_3_code 0 = .ok (.aload_n 0, 1) := by decide +kernel
theorem d3_1 : decode jdk_42_method_3_code 1 = .ok (.aload_n 1, 1) := by decide +kernel
theorem d3_2 : decode jdk_42_method_3_code 2 = .ok (.iconst 0, 1) := by decide +kernel
theorem d3_3 : decode jdk_42_method_3_code 3 = .ok (.aload_n 1, 1) := by decide +kernel
theorem d3_4 : decode jdk_42_method_3_code 4 = .ok (.arraylength, 1) := by decide +kernel
theorem d3_5 : decode jdk_42_method_3_code 5 = .ok (.aconst_null, 1) := by decide +kernel
theorem d3_6 : decode jdk_42_method_3_code 6 = .ok (.invokespecial 27, 3) := by decide +kernel
theorem d3_9 : decode jdk_42_method_3_code 9 = .ok (.return_, 1) := by decide +kernel
theorem pn_3 : plainName "java/lang/String" = true := by first | (simp [plainName, overriddenIn]; done) | decide +kernel
theorem pd___CIILjava_lang_Void__V : parseMethodDescriptor "([CIILjava/lang/Void;)V" = some ⟨[(.array .char), .int, .int, (.object "java/lang/Void")], none⟩ := by decide +kernel
theorem ef_rmSC (m : MethodId) (x0 : Addr) (x1 : Addr) : entryFrame m #[(.ref x0), (.ref x1)] 2 = mkF m 0 #[.val (.ref x0), .val (.ref x1)] [] := by first | (simp [entryFrame, mkF, argsToLocals, Value.category]; done) | rfl
def Q_rmSC (Z : State) (a1 : Addr) (a2 : Addr) (ka : ClassId) (h0 : Heap) (n0 : Nat) (v : Option Value) (h : Heap) (L : List Loc) : Prop := ∃ t : Addr, ∃ kb : ClassId, v = none ∧ Fr n0 L ∧ Keep h0 h [a1] ∧ Exa Z h a1 "java/lang/String" ∧ Fld Z h a1 "java/lang/String" "value" "[B" (.ref t) ∧ Fld Z h a1 "java/lang/String" "coder" "B" (.int (0 : Int32)) ∧ Arv Z h t kb .byte (0 : Int32) [] (.int 0)
set_option maxRecDepth 65536 in
set_option maxHeartbeats 40000000 in
theorem rmSC (l : Launch) (Z : State) (a0 : Array Value) (hw : ∀ d ∈ tables_1, d.before a0 Z = true) (ws : List Jvm.Cond) (a1 : Addr) (a2 : Addr) (ka : ClassId) (h0 : Heap) (n0 : Nat) (Z0 : n0 ≤ h0.size) (pE_a1 : Exa Z h0 a1 "java/lang/String") (pF_value_a1 : Fld Z h0 a1 "java/lang/String" "value" "[B" .null) (pF_coder_a1 : Fld Z h0 a1 "java/lang/String" "coder" "B" (.int (0 : Int32))) (pG_a1 : n0 ≤ a1) (pV_a2 : Arv Z h0 a2 ka .char (0 : Int32) [] (.int (0 : Int32))) :
    MetFree l (⟨"java/lang/String", "<init>", "([C)V"⟩ : MethodName) (head1 (Jvm.Cond.code (⟨"java/lang/String", "<init>", "([C)V"⟩ : MethodName) jdk_42_method_3_code 2 none :: ws) ({ frames := 2, cells := 4, slots := 8, locals := 29 } : Room)) (fun a U => a = #[(.ref a1), (.ref a2)] ∧ Z.Warmed39 U.vm ∧ U.heap = h0 ∧ CHv Z own_EL U.vm h0) (fun _ _ _ _ _ => True) (fun _ U o U' => ∃ v L, o = .returned v ∧ Q_rmSC Z a1 a2 ka h0 n0 v U'.heap L ∧ CHr Z own_EL U.vm U.heap U'.vm U'.heap ∧ ReturnedEndW U o U' L ({ frames := 2, cells := 4, slots := 8, locals := 29 } : Room).cells ({ frames := 2, cells := 4, slots := 8, locals := 29 } : Room).slots) := by
  refine MetFree.of_bodySF (plainFor_of_name pn_3) hisR ?_
  intro p e s m args below meth c s₁ Bd hml0 hP hK
  obtain ⟨rfl, hZ, hh, hCH⟩ := hP
  have hx := Bd.exec
  have hby := Bd.bytes
  have hml : c.maxLocals = 2 := hml0
  have hown : s.vm.findClass "java/lang/String" = some m.cls := findClass_of_methodNamed Bd.named
  have hnm := (name_of_methodNamed Bd.named Bd.method).1
  have X0 : Stand p l e ({ frames := 2, cells := 4, slots := 8, locals := 29 } : Room) (s.setVm s.vm) m #[(.ref a1), (.ref a2)] below meth c s₁ [] 0 0 := Stand.of_body Bd
  have e0 : s₁.heap = h0 := by rw [← hh, Bd.state]; rfl
  have N0 := Fr.nil n0
  have hEL := own_EW hw
  have hCR := CHr.refl hCH
  have hS : s.Since s.vm h0.size := (State.WarmedH.refl s).since _
  have hK0 : h0.size ≤ h0.size := Nat.le_refl _
  refine own_enter (ef_rmSC m a1 a2) ?_
  refine own_st (fun t_ k_ => XS.aloadN X0.here hx rfl (hb hby d3_0) rfl rfl (XS.aloadN X0.here hx rfl (hb hby d3_1) rfl rfl (XS.iconst X0.here hx rfl (hb hby d3_2) (XS.aloadN X0.here hx rfl (hb hby d3_3) rfl rfl k_)))) ?_
  show own_Go p e below s₁ (mkF m 4 #[.val (.ref a1), .val (.ref a2)] [(.ref a2), (.int (0 : Int32)), (.ref a2), (.ref a1)]) _
  obtain ⟨cl1, Ar1, q1, Sz1, Nn1, Hh1, Gg1⟩ := id pV_a2
  refine own_st (fun t_ k_ => X0.arraylength hx (by rw [e0]; exact Ar1.1) (State.isArrayOf_alike hZ.alike Ar1.2.1) (g := (mkF m 4 #[.val (.ref a1), .val (.ref a2)] [(.ref a2), (.int (0 : Int32)), (.ref a2), (.ref a1)])) rfl rfl (hb hby d3_4) _ k_) ?_
  rw [len_of Sz1 Nn1]
  show own_Go p e below s₁ (mkF m 5 #[.val (.ref a1), .val (.ref a2)] [(.int (0 : Int32)), (.int (0 : Int32)), (.ref a2), (.ref a1)]) _
  refine own_st (fun t_ k_ => XS.aconstNull X0.here hx rfl (hb hby d3_5) k_) ?_
  show own_Go p e below s₁ (mkF m 6 #[.val (.ref a1), .val (.ref a2)] [.null, (.int (0 : Int32)), (.int (0 : Int32)), (.ref a2), (.ref a1)]) _
  obtain ⟨_, _, ⟨T2, L2, k2, n2⟩, -, Xa2, hSa2, hGa2, ⟨Lc2, hQ2, l2, y2, z2, A2⟩, st2⟩ := X0.specialBackS hx (y := (⟨"java/lang/String", "<init>", "([CIILjava/lang/Void;)V"⟩ : MethodName)) rfl hown (mvT hZ (own_w hw 15 rfl)) (mvT hZ (own_w hw 16 rfl)) (mvT hZ (own_w hw 18 rfl)) (by decide) (backOfSH (W := 0) (rmS0 l Z a0 hw [] a1 a2 h0 n0 Z0 pE_a1 pF_value_a1 pF_coder_a1 pG_a1) hZ (own_w hw 18 rfl) (own_w hw 11 rfl) (by decide) (by decide) hEL hCH) (g := (mkF m 6 #[.val (.ref a1), .val (.ref a2)] [.null, (.int (0 : Int32)), (.int (0 : Int32)), (.ref a2), (.ref a1)])) rfl (by rw [hml]; rfl) (Steps.refl _) (a := a1) (argsL := [(.ref a2), (.int (0 : Int32)), (.int (0 : Int32)), .null]) (rest := []) (lenOf pd___CIILjava_lang_Void__V rfl) rfl (by show 2 * 0 + _ ≤ _; exact Nat.le_of_eq rfl) (hb hby d3_6) (fun _ _ => ⟨rfl, e0, (by decide : 0 + 4 ≤ _), (by decide : 0 + 8 ≤ _)⟩)
  dsimp only [Pt.U, Pt.locs, Pt.cells, Pt.slots] at Xa2 hSa2 hGa2 l2 y2 z2 A2 st2 hQ2
  try dsimp only [Nat.reduceAdd] at y2 z2
  rw [l2, y2, z2] at Xa2
  obtain ⟨X2, hS, hZ, hown⟩ := rebS hS (by rw [e0]; exact hK0) Xa2 hSa2 hGa2 hZ hown
  obtain ⟨t_2, kb_2, rfl, Nq2, Kq2, q2_0, q2_1, q2_2, q2_3⟩ := hQ2
  have N2 := Fr.app N0 Nq2
  have CH3 := A2.1
  have CR3 := CHr.trans hCR (A2)
  have K4 : Keep h0 T2.heap [a1] := (Keep.refl h0 [a1]).trans Kq2 (allS (Or.inl (List.mem_of_getElem? (i := 0) rfl)) all0)
  have hK2 : T2.heap.size ≤ T2.heap.size := Nat.le_refl _
  refine own_tr st2 ?_
  show own_Go p e below T2 (mkF m 9 #[.val (.ref a1), .val (.ref a2)] []) _
  obtain ⟨fs, hr, hrun, hended, hRW⟩ := X2.leaveW hS hK2 (v := none) (fun _ => rfl)
  have hCend : CHr Z own_EL s.vm s.heap T2.vm T2.heap := by
    rw [hh]
    exact CHr.trans CR3 (CHv.at X2 hZ hEL CH3)
  refine own_fin (X2.returnOut hx Bd.returns (hb hby d3_9) hr) ⟨hrun, hended, _, _, rfl, ?_, hCend, hRW.1, hRW.2.1, hRW.2.2.1, hRW.2.2.2.mono (by decide) (by decide)⟩
  show Q_rmSC Z a1 a2 ka h0 n0 _ T2.heap _
  exact ⟨t_2, kb_2, rfl, N2, K4, q2_0, q2_1, q2_2, q2_3⟩
theorem d1_5 : decode jdk_29_method_69_code 5 = .ok (.iload_n 0, 1) := by decide +kernel
theorem d1_6 : decode jdk_29_method_69_code 6 = .ok (.goto 4, 3) := by decide +kernel
theorem ef_rmMn (m : MethodId) (x0 : Int32) (x1 : Int32) : entryFrame m #[(.int x0), (.int x1)] 2 = mkF m 0 #[.val (.int x0), .val (.int x1)] [] := by first | (simp [entryFrame, mkF, argsToLocals, Value.category]; done) | rfl
def Q_rmMn (Z : State) (a_ : Int32) (h0 : Heap) (n0 : Nat) (v : Option Value) (h : Heap) (L : List Loc) : Prop := ∃ r : Int32, v = some (.int r) ∧ Fr n0 L ∧ h = h0 ∧ (r = 0 ∨ r = 1 ∨ r = 2)
set_option maxRecDepth 65536 in
set_option maxHeartbeats 40000000 in
theorem rmMn (l : Launch) (Z : State) (a0 : Array Value) (hw : ∀ d ∈ tables_1, d.before a0 Z = true) (ws : List Jvm.Cond) (a_ : Int32) (h0 : Heap) (n0 : Nat) (Z0 : n0 ≤ h0.size) (hA : (0 ≤ a_.toInt ∧ a_.toInt ≤ 3)) :
    MetFree l (⟨"java/lang/Math", "min", "(II)I"⟩ : MethodName) (head1 (Jvm.Cond.code (⟨"java/lang/Math", "min", "(II)I"⟩ : MethodName) jdk_29_method_69_code 2 (some .int) :: ws) ({ frames := 0, cells := 0, slots := 0, locals := 0 } : Room)) (fun a U => a = #[(.int a_), (.int (2 : Int32))] ∧ Z.Warmed39 U.vm ∧ U.heap = h0) (fun _ _ _ _ _ => True) (fun _ U o U' => ∃ v L, o = .returned v ∧ Q_rmMn Z a_ h0 n0 v U'.heap L ∧ FrameEnd U o U' L ({ frames := 0, cells := 0, slots := 0, locals := 0 } : Room).cells ({ frames := 0, cells := 0, slots := 0, locals := 0 } : Room).slots) := by
  refine MetFree.of_bodySF (Jvm.Free.JP.mathPlain rfl (by decide +kernel)) hisR ?_
  intro p e s m args below meth c s₁ Bd hml0 hP hK
  obtain ⟨rfl, hZ, hh⟩ := hP
  have hx := Bd.exec
  have hby := Bd.bytes
  have hml : c.maxLocals = 2 := hml0
  have hown : s.vm.findClass "java/lang/Math" = some m.cls := findClass_of_methodNamed Bd.named
  have hnm := (name_of_methodNamed Bd.named Bd.method).1
  have X0 : Stand p l e ({ frames := 0, cells := 0, slots := 0, locals := 0 } : Room) s m #[(.int a_), (.int (2 : Int32))] below meth c s₁ [] 0 0 := Stand.of_body Bd
  have e0 : s₁.heap = h0 := by rw [← hh, Bd.state]; rfl
  have N0 := Fr.nil n0
  refine own_enter (ef_rmMn m a_ ((2 : Int32))) ?_
  refine own_st (fun t_ k_ => XS.iloadN X0.here hx rfl (hb hby d1_0) rfl (XS.iloadN X0.here hx rfl (hb hby d1_1) rfl k_)) ?_
  show own_Go p e below s₁ (mkF m 2 #[.val (.int a_), .val (.int (2 : Int32))] [(.int (2 : Int32)), (.int a_)]) _
  by_cases c2 : (2 : Int32) < a_
  · skip
    refine own_st (fun t_ k_ => XS.icmpYes X0.here hx rfl (pc0 := 2) (pc' := 9) rfl (hb hby d1_2) rfl (tlt c2).2.2.1 (by decide) (by decide) (XS.iloadN X0.here hx rfl (hb hby d1_9) rfl k_)) ?_
    show own_Go p e below s₁ (mkF m 10 #[.val (.int a_), .val (.int (2 : Int32))] [(.int (2 : Int32))]) _
    obtain ⟨fs, hr, hrun, hended, hW, hsame⟩ := X0.leave (v := some (.int (2 : Int32))) (fun h => by rw [Bd.returns] at h; cases h)
    refine own_fin (own_retI X0 hx Bd.returns (hb hby d1_10) hr) ⟨hrun, hended, _, _, rfl, ?_, ⟨_, rfl⟩, hW, hsame.mono (by decide) (by decide)⟩
    show Q_rmMn Z a_ h0 n0 _ s₁.heap _
    rw [e0]
    exact ⟨(2 : Int32), rfl, N0, rfl, (Or.inr (Or.inr rfl))⟩
  · skip
    refine own_st (fun t_ k_ => XS.icmpNo X0.here hx rfl (hb hby d1_2) rfl (flt c2).2.2.1 (XS.iloadN X0.here hx rfl (hb hby d1_5) rfl (XS.goto X0.here hx rfl (pc0 := 6) (pc' := 10) rfl (hb hby d1_6) (by decide) (by decide) k_))) ?_
    show own_Go p e below s₁ (mkF m 10 #[.val (.int a_), .val (.int (2 : Int32))] [(.int a_)]) _
    have hr3 : a_ = 0 ∨ a_ = 1 ∨ a_ = 2 := by
      rw [Int32.lt_iff_toInt_lt, show (2 : Int32).toInt = 2 from rfl] at c2
      have h5 : a_.toInt = 0 ∨ a_.toInt = 1 ∨ a_.toInt = 2 := by omega
      rcases h5 with q | q | q
      · exact Or.inl (Int32.toInt_inj.mp q)
      · exact Or.inr (Or.inl (Int32.toInt_inj.mp q))
      · exact Or.inr (Or.inr (Int32.toInt_inj.mp q))
    obtain ⟨fs, hr, hrun, hended, hW, hsame⟩ := X0.leave (v := some (.int a_)) (fun h => by rw [Bd.returns] at h; cases h)
    refine own_fin (own_retI X0 hx Bd.returns (hb hby d1_10) hr) ⟨hrun, hended, _, _, rfl, ?_, ⟨_, rfl⟩, hW, hsame.mono (by decide) (by decide)⟩
    show Q_rmMn Z a_ h0 n0 _ s₁.heap _
    rw [e0]
    exact ⟨a_, rfl, N0, rfl, hr3⟩
theorem d2_0 : decode method_2_code 0 = .ok (.iload_n 0, 1) := by decide +kernel
theorem d2_1 : decode method_2_code 1 = .ok (.newarray .char, 2) := by decide +kernel
theorem d2_3 : decode method_2_code 3 = .ok (.astore_n 2, 1) := by decide +kernel
theorem d2_4 : decode method_2_code 4 = .ok (.iload_n 0, 1) := by decide +kernel
theorem d2_5 : decode method_2_code 5 = .ok (.ifCond .le 12, 3) := by decide +kernel
theorem d2_8 : decode method_2_code 8 = .ok (.aload_n 2, 1) := by decide +kernel
theorem d2_9 : decode method_2_code 9 = .ok (.iconst 0, 1) := by decide +kernel
theorem d2_10 : decode method_2_code 10 = .ok (.iload_n 1, 1) := by decide +kernel
theorem d2_11 : decode method_2_code 11 = .ok (.sipush 255, 3) := by decide +kernel
theorem d2_14 : decode method_2_code 14 = .ok (.iand, 1) := by decide +kernel
theorem d2_15 : decode method_2_code 15 = .ok (.i2c, 1) := by decide +kernel
theorem d2_16 : decode method_2_code 16 = .ok (.castore, 1) := by decide +kernel
theorem d2_17 : decode method_2_code 17 = .ok (.iload_n 0, 1) := by decide +kernel
theorem d2_18 : decode method_2_code 18 = .ok (.iconst 1, 1) := by decide +kernel
theorem d2_19 : decode method_2_code 19 = .ok (.if_icmp .le 15, 3) := by decide +kernel
theorem d2_22 : decode method_2_code 22 = .ok (.aload_n 2, 1) := by decide +kernel
theorem d2_23 : decode method_2_code 23 = .ok (.iconst 1, 1) := by decide +kernel
theorem d2_24 : decode method_2_code 24 = .ok (.iload_n 1, 1) := by decide +kernel
theorem d2_25 : decode method_2_code 25 = .ok (.bipush 8, 2) := by decide +kernel
theorem d2_27 : decode method_2_code 27 = .ok (.iushr, 1) := by decide +kernel
theorem d2_28 : decode method_2_code 28 = .ok (.sipush 255, 3) := by decide +kernel
theorem d2_31 : decode method_2_code 31 = .ok (.iand, 1) := by decide +kernel
theorem d2_32 : decode method_2_code 32 = .ok (.i2c, 1) := by decide +kernel
theorem d2_33 : decode method_2_code 33 = .ok (.castore, 1) := by decide +kernel
theorem d2_34 : decode method_2_code 34 = .ok (.new 7, 3) := by decide +kernel
theorem d2_37 : decode method_2_code 37 = .ok (.dup, 1) := by decide +kernel
theorem d2_38 : decode method_2_code 38 = .ok (.aload_n 2, 1) := by decide +kernel
theorem d2_39 : decode method_2_code 39 = .ok (.invokespecial 9, 3) := by decide +kernel
theorem d2_42 : decode method_2_code 42 = .ok (.areturn, 1) := by decide +kernel
theorem pn_2 : plainName "com/example/beanharness/beanharness/FindingToStringPinLaw" = true := by first | (simp [plainName, overriddenIn]; done) | decide +kernel
theorem pd___C_V : parseMethodDescriptor "([C)V" = some ⟨[(.array .char)], none⟩ := by decide +kernel
theorem ef_rmMk (m : MethodId) (x0 : Int32) (x1 : Int32) : entryFrame m #[(.int x0), (.int x1)] 3 = mkF m 0 #[.val (.int x0), .val (.int x1), .unset] [] := by first | (simp [entryFrame, mkF, argsToLocals, Value.category]; done) | rfl
def Q_rmMk (Z : State) (pn : Int32) (pb : Int32) (cs : List Int32) (zc : Int32) (h0 : Heap) (n0 : Nat) (v : Option Value) (h : Heap) (L : List Loc) : Prop := ∃ y : Addr, ∃ t : Addr, ∃ kb : ClassId, v = some (.ref y) ∧ Fr n0 L ∧ Keep h0 h [] ∧ Exa Z h y "java/lang/String" ∧ Fld Z h y "java/lang/String" "value" "[B" (.ref t) ∧ Fld Z h y "java/lang/String" "coder" "B" (.int (0 : Int32)) ∧ Arv Z h t kb .byte (Int32.ofNat (cs : List Int32).length) (((cs : List Int32).map (fun c : Int32 => c.toInt8.toInt32)).map Value.int) (.int 0)
set_option maxRecDepth 65536 in
set_option maxHeartbeats 40000000 in
theorem rmMk (l : Launch) (Z : State) (a0 : Array Value) (hw : ∀ d ∈ tables_1, d.before a0 Z = true) (ws : List Jvm.Cond) (pn : Int32) (pb : Int32) (cs : List Int32) (zc : Int32) (h0 : Heap) (n0 : Nat) (Z0 : n0 ≤ h0.size) (hM : (own_Mk pn pb cs)) (pS_COMPACT_STRINGS : Sta Z Z.heap "java/lang/String" "COMPACT_STRINGS" "Z" (.int zc)) (pP5 : (¬ (zc = (0 : Int32)))) (pO : Old Z n0 h0) :
    MetFree l (⟨"com/example/beanharness/beanharness/FindingToStringPinLaw", "mk", "(II)Ljava/lang/String;"⟩ : MethodName) (head1 (Jvm.Cond.code (⟨"com/example/beanharness/beanharness/FindingToStringPinLaw", "mk", "(II)Ljava/lang/String;"⟩ : MethodName) method_2_code 3 (some (.object "java/lang/String")) :: ws) ({ frames := 4, cells := 6, slots := 12, locals := 66 } : Room)) (fun a U => a = #[(.int pn), (.int pb)] ∧ Z.Warmed39 U.vm ∧ U.heap = h0 ∧ CHv Z own_EL U.vm h0) (fun _ _ _ _ _ => True) (fun _ U o U' => ∃ v L, o = .returned v ∧ Q_rmMk Z pn pb cs zc h0 n0 v U'.heap L ∧ CHr Z own_EL U.vm U.heap U'.vm U'.heap ∧ ReturnedEndW U o U' L ({ frames := 4, cells := 6, slots := 12, locals := 66 } : Room).cells ({ frames := 4, cells := 6, slots := 12, locals := 66 } : Room).slots) := by
  refine MetFree.of_bodySF (plainFor_of_name pn_2) hisR ?_
  intro p e s m args below meth c s₁ Bd hml0 hP hK
  obtain ⟨rfl, hZ, hh, hCH⟩ := hP
  have hx := Bd.exec
  have hby := Bd.bytes
  have hml : c.maxLocals = 3 := hml0
  have hown : s.vm.findClass "com/example/beanharness/beanharness/FindingToStringPinLaw" = some m.cls := findClass_of_methodNamed Bd.named
  have hnm := (name_of_methodNamed Bd.named Bd.method).1
  have X0 : Stand p l e ({ frames := 4, cells := 6, slots := 12, locals := 66 } : Room) (s.setVm s.vm) m #[(.int pn), (.int pb)] below meth c s₁ [] 0 0 := Stand.of_body Bd
  have e0 : s₁.heap = h0 := by rw [← hh, Bd.state]; rfl
  have N0 := Fr.nil n0
  have hEL := own_EW hw
  have hCR := CHr.refl hCH
  have hS : s.Since s.vm h0.size := (State.WarmedH.refl s).since _
  have hK0 : h0.size ≤ h0.size := Nat.le_refl _
  refine own_enter (ef_rmMk m pn pb) ?_
  have hws : ∀ d ∈ StrChars.Road.words, d.before a0 Z = true := fun d hd => hw d ((by decide +kernel : ∀ d ∈ StrChars.Road.words, d ∈ tables_1) d hd)
  have hP := own_mkP hM
  rcases hM with ⟨rfl, rfl⟩ | ⟨rfl, rfl⟩ | ⟨rfl, rfl⟩
  · skip
    show own_Go p e below s₁ (mkF m 0 #[.val (.int (0 : Int32)), .val (.int pb), .unset] []) _
    refine own_st (fun t_ k_ => XS.iloadN X0.here hx rfl (hb hby d2_0) rfl k_) ?_
    show own_Go p e below s₁ (mkF m 1 #[.val (.int (0 : Int32)), .val (.int pb), .unset] [(.int (0 : Int32))]) _
    obtain ⟨T1, h1, k1, X1, e1, E1, A1, st1⟩ := newP X0 hx hZ (own_w hw 8 rfl) e0 (g := (mkF m 1 #[.val (.int (0 : Int32)), .val (.int pb), .unset] [(.int (0 : Int32))])) rfl (hb hby d2_1) rfl (by decide) (cap := 0) (by decide) (by decide) (by decide) (by decide)
    obtain ⟨b1, g1⟩ : ∃ z, z = h0.size := ⟨_, rfl⟩
    rw [← g1] at A1 st1
    have G1 : n0 ≤ b1 := Nat.le_trans Z0 (Nat.le_of_eq g1.symm)
    have B1 : h0.size ≤ b1 := Nat.le_trans (Keep.refl h0 []).1 (Nat.le_of_eq g1.symm)
    have CH2 := hCH.ext E1
    have CR2 := CHr.trans hCR (CHr.ext E1 hCH)
    have K3 : Keep h0 h1 [] := (Keep.refl h0 []).ext E1
    have V1 : Arv Z h1 b1 k1 .char (0 : Int32) [] (.int (0 : Int32)) := Arv.new A1 (by decide)
    refine own_st st1 ?_
    show own_Go p e below T1 (mkF m 3 #[.val (.int (0 : Int32)), .val (.int pb), .unset] [(.ref b1)]) _
    refine own_st (fun t_ k_ => XS.astoreN X1.here hx rfl (hb hby d2_3) rfl rfl (l' := #[.val (.int (0 : Int32)), .val (.int pb), .val (.ref b1)]) rfl (XS.iloadN X1.here hx rfl (hb hby d2_4) rfl (XS.ifYes X1.here hx rfl (pc0 := 5) (pc' := 17) rfl (hb hby d2_5) rfl (by decide) (by decide) (by decide) (XS.iloadN X1.here hx rfl (hb hby d2_17) rfl (XS.iconst X1.here hx rfl (hb hby d2_18) (XS.icmpYes X1.here hx rfl (pc0 := 19) (pc' := 34) rfl (hb hby d2_19) rfl (by decide) (by decide) (by decide) k_)))))) ?_
    show own_Go p e below T1 (mkF m 34 #[.val (.int (0 : Int32)), .val (.int pb), .val (.ref b1)] []) _
    have f4 := (Nat.le_trans Z0 E1.1)
    obtain ⟨T5, h5, X5, e5, E5, A5, D5, -, st5⟩ := newO X1 hx hZ hown (own_w hw 9 rfl) (own_w hw 10 rfl) (own_w hw 11 rfl) e1 (g := (mkF m 34 #[.val (.int (0 : Int32)), .val (.int pb), .val (.ref b1)] [])) rfl (hb hby d2_34) (by decide) (by decide)
    obtain ⟨b5, g5⟩ : ∃ z, z = h1.size := ⟨_, rfl⟩
    rw [← g5] at A5 D5 st5
    have G5 : n0 ≤ b5 := Nat.le_trans f4 (Nat.le_of_eq g5.symm)
    have B5 : h0.size ≤ b5 := Nat.le_trans K3.1 (Nat.le_of_eq g5.symm)
    have CH6 := CH2.ext E5
    have CR6 := CHr.trans CR2 (CHr.ext E5 CH2)
    have K7 : Keep h0 h5 [] := K3.ext E5
    have SF5 : Safe Z own_EL s.vm h5 b5 := Safe.ext E5 CH2 (Safe.new (x := b5) (Nat.le_of_eq g5.symm))
    have D5_coder : Fld Z h5 b5 "java/lang/String" "coder" "B" (.int (0 : Int32)) := D5 (Or.inr (own_w hw 35 rfl)) (ty := .byte) (by decide)
    have D5_value : Fld Z h5 b5 "java/lang/String" "value" "[B" .null := D5 (Or.inr (own_w hw 37 rfl)) (ty := (.array .byte)) (by decide)
    refine own_st st5 ?_
    show own_Go p e below T5 (mkF m 37 #[.val (.int (0 : Int32)), .val (.int pb), .val (.ref b1)] [(.ref b5)]) _
    refine own_st (fun t_ k_ => XS.dup X5.here hx rfl (hb hby d2_37) rfl rfl (XS.aloadN X5.here hx rfl (hb hby d2_38) rfl rfl k_)) ?_
    show own_Go p e below T5 (mkF m 39 #[.val (.int (0 : Int32)), .val (.int pb), .val (.ref b1)] [(.ref b1), (.ref b5), (.ref b5)]) _
    have f8 := (Nat.le_trans f4 E5.1)
    have f9 := (V1.ext E5)
    have f11 := (Nat.le_trans (Nat.le_trans hK0 E1.1) E5.1)
    obtain ⟨_, _, ⟨T10, L10, k10, n10⟩, -, Xa10, hSa10, hGa10, ⟨Lc10, hQ10, l10, y10, z10, A10⟩, st10⟩ := X5.specialBackS hx (y := (⟨"java/lang/String", "<init>", "([C)V"⟩ : MethodName)) rfl hown (mvT hZ (own_w hw 12 rfl)) (mvT hZ (own_w hw 13 rfl)) (mvT hZ (own_w hw 14 rfl)) (by decide) (backOfSH (W := 1) (rmSC l Z a0 hw [] b5 b1 k1 h5 n0 f8 A5 D5_value D5_coder G5 f9) hZ (own_w hw 14 rfl) (own_w hw 11 rfl) (by decide) (by decide) hEL CH6) (g := (mkF m 39 #[.val (.int (0 : Int32)), .val (.int pb), .val (.ref b1)] [(.ref b1), (.ref b5), (.ref b5)])) rfl (by rw [hml]; rfl) (Steps.refl _) (a := b5) (argsL := [(.ref b1)]) (rest := [(.ref b5)]) (lenOf pd___C_V rfl) rfl (by show 2 * 0 + _ ≤ _; exact Nat.le_of_eq rfl) (hb hby d2_39) (fun _ _ => ⟨rfl, e5, (by decide : 2 + 4 ≤ _), (by decide : 4 + 8 ≤ _)⟩)
    dsimp only [Pt.U, Pt.locs, Pt.cells, Pt.slots] at Xa10 hSa10 hGa10 l10 y10 z10 A10 st10 hQ10
    try dsimp only [Nat.reduceAdd] at y10 z10
    rw [l10, y10, z10] at Xa10
    obtain ⟨X10, hS, hZ, hown⟩ := rebS hS (by rw [e5]; exact f11) Xa10 hSa10 hGa10 hZ hown
    obtain ⟨t_10, kb_10, rfl, Nq10, Kq10, q10_0, q10_1, q10_2, q10_3⟩ := hQ10
    have N10 := Fr.app N0 Nq10
    have CH12 := A10.1
    have CR12 := CHr.trans CR6 (A10)
    have K13 : Keep h0 T10.heap [] := K7.trans Kq10 (allS (Or.inr B5) all0)
    have hK10 : T10.heap.size ≤ T10.heap.size := Nat.le_refl _
    refine own_tr st10 ?_
    show own_Go p e below T10 (mkF m 42 #[.val (.int (0 : Int32)), .val (.int pb), .val (.ref b1)] [(.ref b5)]) _
    obtain ⟨fs, hr, hrun, hended, hRW⟩ := X10.leaveW hS hK10 (v := some (.ref b5)) (fun h => by rw [Bd.returns] at h; cases h)
    have hCend : CHr Z own_EL s.vm s.heap T10.vm T10.heap := by
      rw [hh]
      exact CHr.trans CR12 (CHv.at X10 hZ hEL CH12)
    refine own_fin (own_retR X10 hx rfl Bd.returns rfl (hb hby d2_42) hr) ⟨hrun, hended, _, _, rfl, ?_, hCend, hRW.1, hRW.2.1, hRW.2.2.1, hRW.2.2.2.mono (by decide) (by decide)⟩
    show Q_rmMk Z (0 : Int32) pb [] zc h0 n0 _ T10.heap _
    exact ⟨b5, t_10, kb_10, rfl, N10, K13, q10_0, q10_1, q10_2, q10_3⟩
  · skip
    show own_Go p e below s₁ (mkF m 0 #[.val (.int (1 : Int32)), .val (.int pb), .unset] []) _
    refine own_st (fun t_ k_ => XS.iloadN X0.here hx rfl (hb hby d2_0) rfl k_) ?_
    show own_Go p e below s₁ (mkF m 1 #[.val (.int (1 : Int32)), .val (.int pb), .unset] [(.int (1 : Int32))]) _
    obtain ⟨T14, h14, k14, X14, e14, E14, A14, st14⟩ := newP X0 hx hZ (own_w hw 8 rfl) e0 (g := (mkF m 1 #[.val (.int (1 : Int32)), .val (.int pb), .unset] [(.int (1 : Int32))])) rfl (hb hby d2_1) rfl (by decide) (cap := 1) (by decide) (by decide) (by decide) (by decide)
    obtain ⟨b14, g14⟩ : ∃ z, z = h0.size := ⟨_, rfl⟩
    rw [← g14] at A14 st14
    have G14 : n0 ≤ b14 := Nat.le_trans Z0 (Nat.le_of_eq g14.symm)
    have B14 : h0.size ≤ b14 := Nat.le_trans (Keep.refl h0 []).1 (Nat.le_of_eq g14.symm)
    have CH15 := hCH.ext E14
    have CR15 := CHr.trans hCR (CHr.ext E14 hCH)
    have K16 : Keep h0 h14 [] := (Keep.refl h0 []).ext E14
    have V14 : Arv Z h14 b14 k14 .char (1 : Int32) [(.int (0 : Int32))] (.int (0 : Int32)) := (Arv.new A14 (by decide)).pad (pad_rep [] (.int (0 : Int32)) 1)
    refine own_st st14 ?_
    show own_Go p e below T14 (mkF m 3 #[.val (.int (1 : Int32)), .val (.int pb), .unset] [(.ref b14)]) _
    refine own_st (fun t_ k_ => XS.astoreN X14.here hx rfl (hb hby d2_3) rfl rfl (l' := #[.val (.int (1 : Int32)), .val (.int pb), .val (.ref b14)]) rfl (XS.iloadN X14.here hx rfl (hb hby d2_4) rfl (XS.ifNo X14.here hx rfl (hb hby d2_5) rfl (by decide) (XS.aloadN X14.here hx rfl (hb hby d2_8) rfl rfl (XS.iconst X14.here hx rfl (hb hby d2_9) (XS.iloadN X14.here hx rfl (hb hby d2_10) rfl (XS.sipush X14.here hx rfl (hb hby d2_11) (XS.iand X14.here hx rfl (hb hby d2_14) rfl (XS.i2c X14.here hx rfl (hb hby d2_15) rfl k_))))))))) ?_
    show own_Go p e below T14 (mkF m 16 #[.val (.int (1 : Int32)), .val (.int pb), .val (.ref b14)] [(.int ((pb &&& (255 : Int32)).toUInt32.toUInt16.toUInt32.toInt32)), (.int (0 : Int32)), (.ref b14)]) _
    rw [own_i255 (own_m255 pb).1 (own_m255 pb).2]
    show own_Go p e below T14 (mkF m 16 #[.val (.int (1 : Int32)), .val (.int pb), .val (.ref b14)] [(.int (pb &&& (255 : Int32))), (.int (0 : Int32)), (.ref b14)]) _
    obtain ⟨cl17, Ar17, q17, Sz17, Nn17, Hh17, Gg17⟩ := id V14
    have hin17 : ¬ ((0 : Int32) < 0 ∨ cl17.slots.size ≤ ((0 : Int32)).toNatClampNeg) := inb_of Sz17 ⟨by decide, by decide⟩
    obtain ⟨T18, h18, X18, e18, W18, st18⟩ := stC X14 hx hZ e14 Ar17 (j := (0 : Int32)) hin17 (g := (mkF m 16 #[.val (.int (1 : Int32)), .val (.int pb), .val (.ref b14)] [(.int (pb &&& (255 : Int32))), (.int (0 : Int32)), (.ref b14)])) rfl rfl (hb hby d2_16)
    have V18 : Arv Z h18 b14 k14 .char (1 : Int32) [(.int (nar .char (pb &&& (255 : Int32))))] (.int (0 : Int32)) := Arv.set Ar17 q17 Sz17 Nn17 Hh17 Gg17 (fits_nar_char _) W18 0 rfl (Nat.le_of_ble_eq_true rfl)
    rw [own_nar (own_w255 pb)] at V18
    have Sa19 : Safe Z own_EL s.vm h14 b14 := (Safe.arv hZ.alike V14 (by decide))
    have CH19 := CH15.wr W18 Sa19
    have CR19 := CHr.trans CR15 (CHr.wr W18 Sa19 CH15)
    have K20 : Keep h0 h18 [] := K16.wr W18 (Or.inr B14)
    have N18 := Fr.snoc X18 N0 G14
    refine own_st st18 ?_
    show own_Go p e below T18 (mkF m 17 #[.val (.int (1 : Int32)), .val (.int pb), .val (.ref b14)] []) _
    refine own_st (fun t_ k_ => XS.iloadN X18.here hx rfl (hb hby d2_17) rfl (XS.iconst X18.here hx rfl (hb hby d2_18) (XS.icmpYes X18.here hx rfl (pc0 := 19) (pc' := 34) rfl (hb hby d2_19) rfl (by decide) (by decide) (by decide) k_))) ?_
    show own_Go p e below T18 (mkF m 34 #[.val (.int (1 : Int32)), .val (.int pb), .val (.ref b14)] []) _
    have f21 := (Nat.le_trans (Nat.le_trans Z0 E14.1) (Keep.of_wr W18).1)
    obtain ⟨T22, h22, X22, e22, E22, A22, D22, -, st22⟩ := newO X18 hx hZ hown (own_w hw 9 rfl) (own_w hw 10 rfl) (own_w hw 11 rfl) e18 (g := (mkF m 34 #[.val (.int (1 : Int32)), .val (.int pb), .val (.ref b14)] [])) rfl (hb hby d2_34) (by decide) (by decide)
    obtain ⟨b22, g22⟩ : ∃ z, z = h18.size := ⟨_, rfl⟩
    rw [← g22] at A22 D22 st22
    have G22 : n0 ≤ b22 := Nat.le_trans f21 (Nat.le_of_eq g22.symm)
    have B22 : h0.size ≤ b22 := Nat.le_trans K20.1 (Nat.le_of_eq g22.symm)
    have CH23 := CH19.ext E22
    have CR23 := CHr.trans CR19 (CHr.ext E22 CH19)
    have K24 : Keep h0 h22 [] := K20.ext E22
    have SF22 : Safe Z own_EL s.vm h22 b22 := Safe.ext E22 CH19 (Safe.new (x := b22) (Nat.le_of_eq g22.symm))
    have D22_coder : Fld Z h22 b22 "java/lang/String" "coder" "B" (.int (0 : Int32)) := D22 (Or.inr (own_w hw 35 rfl)) (ty := .byte) (by decide)
    have D22_value : Fld Z h22 b22 "java/lang/String" "value" "[B" .null := D22 (Or.inr (own_w hw 37 rfl)) (ty := (.array .byte)) (by decide)
    refine own_st st22 ?_
    show own_Go p e below T22 (mkF m 37 #[.val (.int (1 : Int32)), .val (.int pb), .val (.ref b14)] [(.ref b22)]) _
    refine own_st (fun t_ k_ => XS.dup X22.here hx rfl (hb hby d2_37) rfl rfl (XS.aloadN X22.here hx rfl (hb hby d2_38) rfl rfl k_)) ?_
    show own_Go p e below T22 (mkF m 39 #[.val (.int (1 : Int32)), .val (.int pb), .val (.ref b14)] [(.ref b14), (.ref b22), (.ref b22)]) _
    have f25 := (Nat.le_trans f21 E22.1)
    have f26 := (V18.ext E22)
    have f27 := (((pO.ext E14).wr W18 G14).ext E22)
    obtain ⟨_, _, ⟨T28, L28, k28, n28⟩, -, X28, ⟨Lc28, hQ28, l28, y28, z28⟩, st28⟩ := X22.specialBack hx (y := (⟨"java/lang/String", "<init>", "([C)V"⟩ : MethodName)) rfl hown (mvT hZ (own_w hw 12 rfl)) (mvT hZ (own_w hw 13 rfl)) (mvT hZ (own_w hw 14 rfl)) (by decide) (StrChars.Road.backV (W := 1) hZ hws (kI := 4) (own_w hw 10 rfl) (cs := ([(pb &&& (255 : Int32))] : List Int32)) (bs := (([(pb &&& (255 : Int32))] : List Int32)).map (fun c => c.toInt8.toInt32)) (n := 1) G22 f25 A22 D22_value D22_coder f26 (pS_COMPACT_STRINGS.ext f27.2) pP5 rfl rfl (by decide) (by decide) hP rfl (by decide) (by decide)) (g := (mkF m 39 #[.val (.int (1 : Int32)), .val (.int pb), .val (.ref b14)] [(.ref b14), (.ref b22), (.ref b22)])) rfl (by rw [hml]; rfl) (Steps.refl _) (a := b22) (argsL := [(.ref b14)]) (rest := [(.ref b22)]) (lenOf pd___C_V rfl) rfl (by show 2 * 0 + _ ≤ _; exact Nat.le_of_eq rfl) (hb hby d2_39) (fun _ _ => ⟨rfl, e22, (by decide : 2 + 1 ≤ _), (by decide : 5 + 1 ≤ _)⟩)
    dsimp only [Pt.U, Pt.locs, Pt.cells, Pt.slots] at X28 l28 y28 z28 st28 hQ28
    try dsimp only [Nat.reduceAdd] at y28 z28
    rw [l28, y28, z28] at X28
    obtain ⟨rfl, Nq28, Kq28, q28_E, q28_c, t28, kb28, q28_g, q28_b, q28_n, q28_v, q28_V⟩ := hQ28
    have N28 := Fr.app N18 Nq28
    have Sa29 : ∀ y ∈ [b22], Safe Z own_EL s.vm h22 y := (sfS SF22 sf0)
    have CH29 := CH23.keep Kq28 Sa29
    have CR29 := CHr.trans CR23 (CHr.keep Kq28 Sa29 CH23)
    have K30 : Keep h0 T28.heap [] := K24.trans Kq28 (allS (Or.inr B22) all0)
    have Bf31 : h0.size ≤ t28 := Nat.le_trans K24.1 q28_b
    refine own_tr st28 ?_
    show own_Go p e below T28 (mkF m 42 #[.val (.int (1 : Int32)), .val (.int pb), .val (.ref b14)] [(.ref b22)]) _
    have f32 := (Nat.le_trans (Nat.le_trans (Nat.le_trans (Nat.le_trans hK0 E14.1) (Keep.of_wr W18).1) E22.1) Kq28.1)
    obtain ⟨fs, hr, hrun, hended, hRW⟩ := X28.leaveW hS f32 (v := some (.ref b22)) (fun h => by rw [Bd.returns] at h; cases h)
    have hCend : CHr Z own_EL s.vm s.heap T28.vm T28.heap := by
      rw [hh]
      exact CHr.trans CR29 (CHv.at X28 hZ hEL CH29)
    refine own_fin (own_retR X28 hx rfl Bd.returns rfl (hb hby d2_42) hr) ⟨hrun, hended, _, _, rfl, ?_, hCend, hRW.1, hRW.2.1, hRW.2.2.1, hRW.2.2.2.mono (by decide) (by decide)⟩
    show Q_rmMk Z (1 : Int32) pb [(pb &&& (255 : Int32))] zc h0 n0 _ T28.heap _
    exact ⟨b22, t28, kb28, rfl, N28, K30, q28_E, q28_v, q28_c, q28_V⟩
  · skip
    show own_Go p e below s₁ (mkF m 0 #[.val (.int (2 : Int32)), .val (.int pb), .unset] []) _
    refine own_st (fun t_ k_ => XS.iloadN X0.here hx rfl (hb hby d2_0) rfl k_) ?_
    show own_Go p e below s₁ (mkF m 1 #[.val (.int (2 : Int32)), .val (.int pb), .unset] [(.int (2 : Int32))]) _
    obtain ⟨T33, h33, k33, X33, e33, E33, A33, st33⟩ := newP X0 hx hZ (own_w hw 8 rfl) e0 (g := (mkF m 1 #[.val (.int (2 : Int32)), .val (.int pb), .unset] [(.int (2 : Int32))])) rfl (hb hby d2_1) rfl (by decide) (cap := 2) (by decide) (by decide) (by decide) (by decide)
    obtain ⟨b33, g33⟩ : ∃ z, z = h0.size := ⟨_, rfl⟩
    rw [← g33] at A33 st33
    have G33 : n0 ≤ b33 := Nat.le_trans Z0 (Nat.le_of_eq g33.symm)
    have B33 : h0.size ≤ b33 := Nat.le_trans (Keep.refl h0 []).1 (Nat.le_of_eq g33.symm)
    have CH34 := hCH.ext E33
    have CR34 := CHr.trans hCR (CHr.ext E33 hCH)
    have K35 : Keep h0 h33 [] := (Keep.refl h0 []).ext E33
    have V33 : Arv Z h33 b33 k33 .char (2 : Int32) [(.int (0 : Int32)), (.int (0 : Int32))] (.int (0 : Int32)) := (Arv.new A33 (by decide)).pad (pad_rep [] (.int (0 : Int32)) 2)
    refine own_st st33 ?_
    show own_Go p e below T33 (mkF m 3 #[.val (.int (2 : Int32)), .val (.int pb), .unset] [(.ref b33)]) _
    refine own_st (fun t_ k_ => XS.astoreN X33.here hx rfl (hb hby d2_3) rfl rfl (l' := #[.val (.int (2 : Int32)), .val (.int pb), .val (.ref b33)]) rfl (XS.iloadN X33.here hx rfl (hb hby d2_4) rfl (XS.ifNo X33.here hx rfl (hb hby d2_5) rfl (by decide) (XS.aloadN X33.here hx rfl (hb hby d2_8) rfl rfl (XS.iconst X33.here hx rfl (hb hby d2_9) (XS.iloadN X33.here hx rfl (hb hby d2_10) rfl (XS.sipush X33.here hx rfl (hb hby d2_11) (XS.iand X33.here hx rfl (hb hby d2_14) rfl (XS.i2c X33.here hx rfl (hb hby d2_15) rfl k_))))))))) ?_
    show own_Go p e below T33 (mkF m 16 #[.val (.int (2 : Int32)), .val (.int pb), .val (.ref b33)] [(.int ((pb &&& (255 : Int32)).toUInt32.toUInt16.toUInt32.toInt32)), (.int (0 : Int32)), (.ref b33)]) _
    rw [own_i255 (own_m255 pb).1 (own_m255 pb).2]
    show own_Go p e below T33 (mkF m 16 #[.val (.int (2 : Int32)), .val (.int pb), .val (.ref b33)] [(.int (pb &&& (255 : Int32))), (.int (0 : Int32)), (.ref b33)]) _
    obtain ⟨cl36, Ar36, q36, Sz36, Nn36, Hh36, Gg36⟩ := id V33
    have hin36 : ¬ ((0 : Int32) < 0 ∨ cl36.slots.size ≤ ((0 : Int32)).toNatClampNeg) := inb_of Sz36 ⟨by decide, by decide⟩
    obtain ⟨T37, h37, X37, e37, W37, st37⟩ := stC X33 hx hZ e33 Ar36 (j := (0 : Int32)) hin36 (g := (mkF m 16 #[.val (.int (2 : Int32)), .val (.int pb), .val (.ref b33)] [(.int (pb &&& (255 : Int32))), (.int (0 : Int32)), (.ref b33)])) rfl rfl (hb hby d2_16)
    have V37 : Arv Z h37 b33 k33 .char (2 : Int32) [(.int (nar .char (pb &&& (255 : Int32)))), (.int (0 : Int32))] (.int (0 : Int32)) := Arv.set Ar36 q36 Sz36 Nn36 Hh36 Gg36 (fits_nar_char _) W37 0 rfl (Nat.le_of_ble_eq_true rfl)
    rw [own_nar (own_w255 pb)] at V37
    have Sa38 : Safe Z own_EL s.vm h33 b33 := (Safe.arv hZ.alike V33 (by decide))
    have CH38 := CH34.wr W37 Sa38
    have CR38 := CHr.trans CR34 (CHr.wr W37 Sa38 CH34)
    have K39 : Keep h0 h37 [] := K35.wr W37 (Or.inr B33)
    have N37 := Fr.snoc X37 N0 G33
    refine own_st st37 ?_
    show own_Go p e below T37 (mkF m 17 #[.val (.int (2 : Int32)), .val (.int pb), .val (.ref b33)] []) _
    refine own_st (fun t_ k_ => XS.iloadN X37.here hx rfl (hb hby d2_17) rfl (XS.iconst X37.here hx rfl (hb hby d2_18) (XS.icmpNo X37.here hx rfl (hb hby d2_19) rfl (by decide) (XS.aloadN X37.here hx rfl (hb hby d2_22) rfl rfl (XS.iconst X37.here hx rfl (hb hby d2_23) (XS.iloadN X37.here hx rfl (hb hby d2_24) rfl (XS.bipush X37.here hx rfl (hb hby d2_25) (XS.iushr X37.here hx rfl (hb hby d2_27) rfl (XS.sipush X37.here hx rfl (hb hby d2_28) (XS.iand X37.here hx rfl (hb hby d2_31) rfl k_)))))))))) ?_
    show own_Go p e below T37 (mkF m 32 #[.val (.int (2 : Int32)), .val (.int pb), .val (.ref b33)] [(.int (((pb.toUInt32 >>> ((8 : Int32) &&& 31).toUInt32).toInt32) &&& (255 : Int32))), (.int (1 : Int32)), (.ref b33)]) _
    refine own_st (fun t_ k_ => XS.i2c X37.here hx rfl (hb hby d2_32) rfl k_) ?_
    show own_Go p e below T37 (mkF m 33 #[.val (.int (2 : Int32)), .val (.int pb), .val (.ref b33)] [(.int ((((pb.toUInt32 >>> ((8 : Int32) &&& 31).toUInt32).toInt32) &&& (255 : Int32)).toUInt32.toUInt16.toUInt32.toInt32)), (.int (1 : Int32)), (.ref b33)]) _
    rw [own_iu8 pb, own_i255 (own_m255 (own_hi pb)).1 (own_m255 (own_hi pb)).2]
    show own_Go p e below T37 (mkF m 33 #[.val (.int (2 : Int32)), .val (.int pb), .val (.ref b33)] [(.int (own_hi pb &&& (255 : Int32))), (.int (1 : Int32)), (.ref b33)]) _
    obtain ⟨cl40, Ar40, q40, Sz40, Nn40, Hh40, Gg40⟩ := id V37
    have hin40 : ¬ ((1 : Int32) < 0 ∨ cl40.slots.size ≤ ((1 : Int32)).toNatClampNeg) := inb_of Sz40 ⟨by decide, by decide⟩
    obtain ⟨T41, h41, X41, e41, W41, st41⟩ := stC X37 hx hZ e37 Ar40 (j := (1 : Int32)) hin40 (g := (mkF m 33 #[.val (.int (2 : Int32)), .val (.int pb), .val (.ref b33)] [(.int (own_hi pb &&& (255 : Int32))), (.int (1 : Int32)), (.ref b33)])) rfl rfl (hb hby d2_33)
    have V41 : Arv Z h41 b33 k33 .char (2 : Int32) [(.int (pb &&& (255 : Int32))), (.int (nar .char (own_hi pb &&& (255 : Int32))))] (.int (0 : Int32)) := Arv.set Ar40 q40 Sz40 Nn40 Hh40 Gg40 (fits_nar_char _) W41 1 rfl (Nat.le_of_ble_eq_true rfl)
    rw [own_nar (own_w255 (own_hi pb))] at V41
    have Sa42 : Safe Z own_EL s.vm h37 b33 := (Safe.arv hZ.alike V37 (by decide))
    have CH42 := CH38.wr W41 Sa42
    have CR42 := CHr.trans CR38 (CHr.wr W41 Sa42 CH38)
    have K43 : Keep h0 h41 [] := K39.wr W41 (Or.inr B33)
    have N41 := Fr.snoc X41 N37 G33
    refine own_st st41 ?_
    show own_Go p e below T41 (mkF m 34 #[.val (.int (2 : Int32)), .val (.int pb), .val (.ref b33)] []) _
    have f44 := (Nat.le_trans (Nat.le_trans (Nat.le_trans Z0 E33.1) (Keep.of_wr W37).1) (Keep.of_wr W41).1)
    obtain ⟨T45, h45, X45, e45, E45, A45, D45, -, st45⟩ := newO X41 hx hZ hown (own_w hw 9 rfl) (own_w hw 10 rfl) (own_w hw 11 rfl) e41 (g := (mkF m 34 #[.val (.int (2 : Int32)), .val (.int pb), .val (.ref b33)] [])) rfl (hb hby d2_34) (by decide) (by decide)
    obtain ⟨b45, g45⟩ : ∃ z, z = h41.size := ⟨_, rfl⟩
    rw [← g45] at A45 D45 st45
    have G45 : n0 ≤ b45 := Nat.le_trans f44 (Nat.le_of_eq g45.symm)
    have B45 : h0.size ≤ b45 := Nat.le_trans K43.1 (Nat.le_of_eq g45.symm)
    have CH46 := CH42.ext E45
    have CR46 := CHr.trans CR42 (CHr.ext E45 CH42)
    have K47 : Keep h0 h45 [] := K43.ext E45
    have SF45 : Safe Z own_EL s.vm h45 b45 := Safe.ext E45 CH42 (Safe.new (x := b45) (Nat.le_of_eq g45.symm))
    have D45_coder : Fld Z h45 b45 "java/lang/String" "coder" "B" (.int (0 : Int32)) := D45 (Or.inr (own_w hw 35 rfl)) (ty := .byte) (by decide)
    have D45_value : Fld Z h45 b45 "java/lang/String" "value" "[B" .null := D45 (Or.inr (own_w hw 37 rfl)) (ty := (.array .byte)) (by decide)
    refine own_st st45 ?_
    show own_Go p e below T45 (mkF m 37 #[.val (.int (2 : Int32)), .val (.int pb), .val (.ref b33)] [(.ref b45)]) _
    refine own_st (fun t_ k_ => XS.dup X45.here hx rfl (hb hby d2_37) rfl rfl (XS.aloadN X45.here hx rfl (hb hby d2_38) rfl rfl k_)) ?_
    show own_Go p e below T45 (mkF m 39 #[.val (.int (2 : Int32)), .val (.int pb), .val (.ref b33)] [(.ref b33), (.ref b45), (.ref b45)]) _
    have f48 := (Nat.le_trans f44 E45.1)
    have f49 := (V41.ext E45)
    have f50 := ((((pO.ext E33).wr W37 G33).wr W41 G33).ext E45)
    obtain ⟨_, _, ⟨T51, L51, k51, n51⟩, -, X51, ⟨Lc51, hQ51, l51, y51, z51⟩, st51⟩ := X45.specialBack hx (y := (⟨"java/lang/String", "<init>", "([C)V"⟩ : MethodName)) rfl hown (mvT hZ (own_w hw 12 rfl)) (mvT hZ (own_w hw 13 rfl)) (mvT hZ (own_w hw 14 rfl)) (by decide) (StrChars.Road.backV (W := 1) hZ hws (kI := 4) (own_w hw 10 rfl) (cs := ([(pb &&& (255 : Int32)), (own_hi pb &&& (255 : Int32))] : List Int32)) (bs := (([(pb &&& (255 : Int32)), (own_hi pb &&& (255 : Int32))] : List Int32)).map (fun c => c.toInt8.toInt32)) (n := 2) G45 f48 A45 D45_value D45_coder f49 (pS_COMPACT_STRINGS.ext f50.2) pP5 rfl rfl (by decide) (by decide) hP rfl (by decide) (by decide)) (g := (mkF m 39 #[.val (.int (2 : Int32)), .val (.int pb), .val (.ref b33)] [(.ref b33), (.ref b45), (.ref b45)])) rfl (by rw [hml]; rfl) (Steps.refl _) (a := b45) (argsL := [(.ref b33)]) (rest := [(.ref b45)]) (lenOf pd___C_V rfl) rfl (by show 2 * 0 + _ ≤ _; exact Nat.le_of_eq rfl) (hb hby d2_39) (fun _ _ => ⟨rfl, e45, (by decide : 2 + 1 ≤ _), (by decide : 6 + 2 ≤ _)⟩)
    dsimp only [Pt.U, Pt.locs, Pt.cells, Pt.slots] at X51 l51 y51 z51 st51 hQ51
    try dsimp only [Nat.reduceAdd] at y51 z51
    rw [l51, y51, z51] at X51
    obtain ⟨rfl, Nq51, Kq51, q51_E, q51_c, t51, kb51, q51_g, q51_b, q51_n, q51_v, q51_V⟩ := hQ51
    have N51 := Fr.app N41 Nq51
    have Sa52 : ∀ y ∈ [b45], Safe Z own_EL s.vm h45 y := (sfS SF45 sf0)
    have CH52 := CH46.keep Kq51 Sa52
    have CR52 := CHr.trans CR46 (CHr.keep Kq51 Sa52 CH46)
    have K53 : Keep h0 T51.heap [] := K47.trans Kq51 (allS (Or.inr B45) all0)
    have Bf54 : h0.size ≤ t51 := Nat.le_trans K47.1 q51_b
    refine own_tr st51 ?_
    show own_Go p e below T51 (mkF m 42 #[.val (.int (2 : Int32)), .val (.int pb), .val (.ref b33)] [(.ref b45)]) _
    have f55 := (Nat.le_trans (Nat.le_trans (Nat.le_trans (Nat.le_trans (Nat.le_trans hK0 E33.1) (Keep.of_wr W37).1) (Keep.of_wr W41).1) E45.1) Kq51.1)
    obtain ⟨fs, hr, hrun, hended, hRW⟩ := X51.leaveW hS f55 (v := some (.ref b45)) (fun h => by rw [Bd.returns] at h; cases h)
    have hCend : CHr Z own_EL s.vm s.heap T51.vm T51.heap := by
      rw [hh]
      exact CHr.trans CR52 (CHv.at X51 hZ hEL CH52)
    refine own_fin (own_retR X51 hx rfl Bd.returns rfl (hb hby d2_42) hr) ⟨hrun, hended, _, _, rfl, ?_, hCend, hRW.1, hRW.2.1, hRW.2.2.1, hRW.2.2.2.mono (by decide) (by decide)⟩
    show Q_rmMk Z (2 : Int32) pb [(pb &&& (255 : Int32)), (own_hi pb &&& (255 : Int32))] zc h0 n0 _ T51.heap _
    exact ⟨b45, t51, kb51, rfl, N51, K53, q51_E, q51_v, q51_c, q51_V⟩
theorem d10_0 : decode jdk_30_method_1_code 0 = .ok (.aload_n 0, 1) := by decide +kernel
theorem d10_1 : decode jdk_30_method_1_code 1 = .ok (.invokespecial 1, 3) := by decide +kernel
theorem d10_4 : decode jdk_30_method_1_code 4 = .ok (.return_, 1) := by decide +kernel
theorem pn_10 : plainName "java/lang/Record" = true := by first | (simp [plainName, overriddenIn]; done) | decide +kernel
theorem ef_rmRc (m : MethodId) (x0 : Addr) : entryFrame m #[(.ref x0)] 1 = mkF m 0 #[.val (.ref x0)] [] := by first | (simp [entryFrame, mkF, argsToLocals, Value.category]; done) | rfl
def Q_rmRc (Z : State) (a1 : Addr) (h0 : Heap) (n0 : Nat) (v : Option Value) (h : Heap) (L : List Loc) : Prop := v = none ∧ Fr n0 L ∧ h = h0
set_option maxRecDepth 65536 in
set_option maxHeartbeats 40000000 in
theorem rmRc (l : Launch) (Z : State) (a0 : Array Value) (hw : ∀ d ∈ tables_1, d.before a0 Z = true) (ws : List Jvm.Cond) (a1 : Addr) (h0 : Heap) (n0 : Nat) (Z0 : n0 ≤ h0.size) :
    MetFree l (⟨"java/lang/Record", "<init>", "()V"⟩ : MethodName) (head1 (Jvm.Cond.code (⟨"java/lang/Record", "<init>", "()V"⟩ : MethodName) jdk_30_method_1_code 1 none :: ws) ({ frames := 1, cells := 0, slots := 0, locals := 12 } : Room)) (fun a U => a = #[(.ref a1)] ∧ Z.Warmed39 U.vm ∧ U.heap = h0) (fun _ _ _ _ _ => True) (fun _ U o U' => ∃ v L, o = .returned v ∧ Q_rmRc Z a1 h0 n0 v U'.heap L ∧ FrameEnd U o U' L ({ frames := 1, cells := 0, slots := 0, locals := 12 } : Room).cells ({ frames := 1, cells := 0, slots := 0, locals := 12 } : Room).slots) := by
  refine MetFree.of_bodySF (plainFor_of_name pn_10) hisR ?_
  intro p e s m args below meth c s₁ Bd hml0 hP hK
  obtain ⟨rfl, hZ, hh⟩ := hP
  have hx := Bd.exec
  have hby := Bd.bytes
  have hml : c.maxLocals = 1 := hml0
  have hown : s.vm.findClass "java/lang/Record" = some m.cls := findClass_of_methodNamed Bd.named
  have hnm := (name_of_methodNamed Bd.named Bd.method).1
  have X0 : Stand p l e ({ frames := 1, cells := 0, slots := 0, locals := 12 } : Room) s m #[(.ref a1)] below meth c s₁ [] 0 0 := Stand.of_body Bd
  have e0 : s₁.heap = h0 := by rw [← hh, Bd.state]; rfl
  have N0 := Fr.nil n0
  refine own_enter (ef_rmRc m a1) ?_
  refine own_st (fun t_ k_ => XS.aloadN X0.here hx rfl (hb hby d10_0) rfl rfl k_) ?_
  show own_Go p e below s₁ (mkF m 1 #[.val (.ref a1)] [(.ref a1)]) _
  obtain ⟨T1, X1, e1, st1⟩ := initO X0 hx hZ hown (own_w hw 52 rfl) (own_w hw 20 rfl) (own_w hw 21 rfl) e0 (g := (mkF m 1 #[.val (.ref a1)] [(.ref a1)])) rfl (by rw [hml]; rfl) rfl (hb hby d10_1) (by decide) (W := 0) (by show 2 * 0 + _ ≤ _; exact Nat.le_of_eq rfl) (by decide)
  refine own_st st1 ?_
  show own_Go p e below T1 (mkF m 4 #[.val (.ref a1)] []) _
  obtain ⟨fs, hr, hrun, hended, hW, hsame⟩ := X1.leave (v := none) (fun _ => rfl)
  refine own_fin (X1.returnOut hx Bd.returns (hb hby d10_4) hr) ⟨hrun, hended, _, _, rfl, ?_, ⟨_, rfl⟩, hW, hsame.mono (by decide) (by decide)⟩
  show Q_rmRc Z a1 h0 n0 _ T1.heap _
  rw [e1]
  exact ⟨rfl, N0, rfl⟩
theorem d9_0 : decode prog_13_method_1_code 0 = .ok (.aload_n 0, 1) := by decide +kernel
theorem d9_1 : decode prog_13_method_1_code 1 = .ok (.invokespecial 1, 3) := by decide +kernel
theorem d9_4 : decode prog_13_method_1_code 4 = .ok (.aload_n 0, 1) := by decide +kernel
theorem d9_5 : decode prog_13_method_1_code 5 = .ok (.aload_n 1, 1) := by decide +kernel
theorem d9_6 : decode prog_13_method_1_code 6 = .ok (.putfield 7, 3) := by decide +kernel
theorem d9_9 : decode prog_13_method_1_code 9 = .ok (.aload_n 0, 1) := by decide +kernel
theorem d9_10 : decode prog_13_method_1_code 10 = .ok (.aload_n 2, 1) := by decide +kernel
theorem d9_11 : decode prog_13_method_1_code 11 = .ok (.putfield 13, 3) := by decide +kernel
theorem d9_14 : decode prog_13_method_1_code 14 = .ok (.aload_n 0, 1) := by decide +kernel
theorem d9_15 : decode prog_13_method_1_code 15 = .ok (.aload_n 3, 1) := by decide +kernel
theorem d9_16 : decode prog_13_method_1_code 16 = .ok (.putfield 16, 3) := by decide +kernel
theorem d9_19 : decode prog_13_method_1_code 19 = .ok (.return_, 1) := by decide +kernel
theorem pn_9 : plainName "com/example/beanharness/beanharness/Finding" = true := by first | (simp [plainName, overriddenIn]; done) | decide +kernel
theorem pd___V : parseMethodDescriptor "()V" = some ⟨[], none⟩ := by decide +kernel
theorem ef_rmSi (m : MethodId) (x0 : Addr) (x1 : Addr) (x2 : Addr) (x3 : Addr) : entryFrame m #[(.ref x0), (.ref x1), (.ref x2), (.ref x3)] 4 = mkF m 0 #[.val (.ref x0), .val (.ref x1), .val (.ref x2), .val (.ref x3)] [] := by first | (simp [entryFrame, mkF, argsToLocals, Value.category]; done) | rfl
def Q_rmSi (Z : State) (a1 : Addr) (x1 : Addr) (x2 : Addr) (x3 : Addr) (u1 : Value) (u2 : Value) (u3 : Value) (h0 : Heap) (n0 : Nat) (v : Option Value) (h : Heap) (L : List Loc) : Prop := v = none ∧ Fr n0 L ∧ Keep h0 h [a1] ∧ Exa Z h a1 "com/example/beanharness/beanharness/Finding" ∧ Fld Z h a1 "com/example/beanharness/beanharness/Finding" "property" "Ljava/lang/String;" (.ref x1) ∧ Fld Z h a1 "com/example/beanharness/beanharness/Finding" "check" "Ljava/lang/String;" (.ref x2) ∧ Fld Z h a1 "com/example/beanharness/beanharness/Finding" "message" "Ljava/lang/String;" (.ref x3)
set_option maxRecDepth 65536 in
set_option maxHeartbeats 40000000 in
theorem rmSi (l : Launch) (Z : State) (a0 : Array Value) (hw : ∀ d ∈ tables_1, d.before a0 Z = true) (ws : List Jvm.Cond) (a1 : Addr) (x1 : Addr) (x2 : Addr) (x3 : Addr) (u1 : Value) (u2 : Value) (u3 : Value) (h0 : Heap) (n0 : Nat) (Z0 : n0 ≤ h0.size) (pE_a1 : Exa Z h0 a1 "com/example/beanharness/beanharness/Finding") (pF_property_a1 : Fld Z h0 a1 "com/example/beanharness/beanharness/Finding" "property" "Ljava/lang/String;" u1) (pF_check_a1 : Fld Z h0 a1 "com/example/beanharness/beanharness/Finding" "check" "Ljava/lang/String;" u2) (pF_message_a1 : Fld Z h0 a1 "com/example/beanharness/beanharness/Finding" "message" "Ljava/lang/String;" u3) (pG_a1 : n0 ≤ a1) :
    MetFree l (⟨"com/example/beanharness/beanharness/Finding", "<init>", "(Ljava/lang/String;Ljava/lang/String;Ljava/lang/String;)V"⟩ : MethodName) (head1 (Jvm.Cond.code (⟨"com/example/beanharness/beanharness/Finding", "<init>", "(Ljava/lang/String;Ljava/lang/String;Ljava/lang/String;)V"⟩ : MethodName) prog_13_method_1_code 4 none :: ws) ({ frames := 2, cells := 0, slots := 0, locals := 24 } : Room)) (fun a U => a = #[(.ref a1), (.ref x1), (.ref x2), (.ref x3)] ∧ Z.Warmed39 U.vm ∧ U.heap = h0) (fun _ _ _ _ _ => True) (fun _ U o U' => ∃ v L, o = .returned v ∧ Q_rmSi Z a1 x1 x2 x3 u1 u2 u3 h0 n0 v U'.heap L ∧ FrameEnd U o U' L ({ frames := 2, cells := 0, slots := 0, locals := 24 } : Room).cells ({ frames := 2, cells := 0, slots := 0, locals := 24 } : Room).slots) := by
  refine MetFree.of_bodySF (plainFor_of_name pn_9) hisR ?_
  intro p e s m args below meth c s₁ Bd hml0 hP hK
  obtain ⟨rfl, hZ, hh⟩ := hP
  have hx := Bd.exec
  have hby := Bd.bytes
  have hml : c.maxLocals = 4 := hml0
  have hown : s.vm.findClass "com/example/beanharness/beanharness/Finding" = some m.cls := findClass_of_methodNamed Bd.named
  have hnm := (name_of_methodNamed Bd.named Bd.method).1
  have X0 : Stand p l e ({ frames := 2, cells := 0, slots := 0, locals := 24 } : Room) s m #[(.ref a1), (.ref x1), (.ref x2), (.ref x3)] below meth c s₁ [] 0 0 := Stand.of_body Bd
  have e0 : s₁.heap = h0 := by rw [← hh, Bd.state]; rfl
  have N0 := Fr.nil n0
  refine own_enter (ef_rmSi m a1 x1 x2 x3) ?_
  refine own_st (fun t_ k_ => XS.aloadN X0.here hx rfl (hb hby d9_0) rfl rfl k_) ?_
  show own_Go p e below s₁ (mkF m 1 #[.val (.ref a1), .val (.ref x1), .val (.ref x2), .val (.ref x3)] [(.ref a1)]) _
  obtain ⟨_, _, ⟨T1, L1, k1, n1⟩, -, X1, ⟨Lc1, hQ1, l1, y1, z1⟩, st1⟩ := X0.specialBack hx (y := (⟨"java/lang/Record", "<init>", "()V"⟩ : MethodName)) rfl hown (mvT hZ (own_w hw 47 rfl)) (mvT hZ (own_w hw 48 rfl)) (mvT hZ (own_w hw 51 rfl)) (by decide) (backOf (W := 0) (rmRc l Z a0 hw [] a1 h0 n0 Z0 ) hZ (own_w hw 51 rfl) (own_w hw 50 rfl) (by decide) (by decide)) (g := (mkF m 1 #[.val (.ref a1), .val (.ref x1), .val (.ref x2), .val (.ref x3)] [(.ref a1)])) rfl (by rw [hml]; rfl) (Steps.refl _) (a := a1) (argsL := []) (rest := []) (lenOf pd___V rfl) rfl (by show 2 * 0 + _ ≤ _; exact Nat.le_of_eq rfl) (hb hby d9_1) (fun _ _ => ⟨rfl, e0, (by decide : 0 + 0 ≤ _), (by decide : 0 + 0 ≤ _)⟩)
  dsimp only [Pt.U, Pt.locs, Pt.cells, Pt.slots] at X1 l1 y1 z1 st1 hQ1
  try dsimp only [Nat.reduceAdd] at y1 z1
  rw [l1, y1, z1] at X1
  obtain ⟨rfl, Nq1, eH1⟩ := hQ1
  have N1 := Fr.app N0 Nq1
  refine own_tr st1 ?_
  show own_Go p e below T1 (mkF m 4 #[.val (.ref a1), .val (.ref x1), .val (.ref x2), .val (.ref x3)] []) _
  refine own_st (fun t_ k_ => XS.aloadN X1.here hx rfl (hb hby d9_4) rfl rfl (XS.aloadN X1.here hx rfl (hb hby d9_5) rfl rfl k_)) ?_
  show own_Go p e below T1 (mkF m 6 #[.val (.ref a1), .val (.ref x1), .val (.ref x2), .val (.ref x3)] [(.ref x1), (.ref a1)]) _
  obtain ⟨T2, h2, X2, e2, W2, st2⟩ := putF X1 hx hZ hown (host := "") (Or.inl (own_w hw 53 rfl)) Via.refl eH1 pF_property_a1 pE_a1 (Or.inr ⟨(own_w hw 54 rfl), rfl, hnm⟩) (own_w hw 42 rfl) (ty := (.object "java/lang/String")) (by decide) rfl rfl (g := (mkF m 6 #[.val (.ref a1), .val (.ref x1), .val (.ref x2), .val (.ref x3)] [(.ref x1), (.ref a1)])) rfl rfl (hb hby d9_6)
  have F2 := pF_property_a1.same W2
  have K3 : Keep h0 h2 [a1] := (Keep.refl h0 [a1]).wr W2 (Or.inl (List.mem_of_getElem? (i := 0) rfl))
  have N2 := Fr.snoc X2 N1 pG_a1
  refine own_st st2 ?_
  show own_Go p e below T2 (mkF m 9 #[.val (.ref a1), .val (.ref x1), .val (.ref x2), .val (.ref x3)] []) _
  refine own_st (fun t_ k_ => XS.aloadN X2.here hx rfl (hb hby d9_9) rfl rfl (XS.aloadN X2.here hx rfl (hb hby d9_10) rfl rfl k_)) ?_
  show own_Go p e below T2 (mkF m 11 #[.val (.ref a1), .val (.ref x1), .val (.ref x2), .val (.ref x3)] [(.ref x2), (.ref a1)]) _
  have f4 := (pE_a1.wr W2)
  have f5 := (pF_check_a1.other W2 (Or.inr (slot_ne (Or.inr (own_w hw 56 rfl)) (Or.inr (own_w hw 54 rfl)) (by decide) (t := (.object "java/lang/String")) (t' := (.object "java/lang/String")) (by decide) (by decide))))
  obtain ⟨T6, h6, X6, e6, W6, st6⟩ := putF X2 hx hZ hown (host := "") (Or.inl (own_w hw 55 rfl)) Via.refl e2 f5 f4 (Or.inr ⟨(own_w hw 56 rfl), rfl, hnm⟩) (own_w hw 42 rfl) (ty := (.object "java/lang/String")) (by decide) rfl rfl (g := (mkF m 11 #[.val (.ref a1), .val (.ref x1), .val (.ref x2), .val (.ref x3)] [(.ref x2), (.ref a1)])) rfl rfl (hb hby d9_11)
  have F6 := f5.same W6
  have K7 : Keep h0 h6 [a1] := K3.wr W6 (Or.inl (List.mem_of_getElem? (i := 0) rfl))
  have N6 := Fr.snoc X6 N2 pG_a1
  refine own_st st6 ?_
  show own_Go p e below T6 (mkF m 14 #[.val (.ref a1), .val (.ref x1), .val (.ref x2), .val (.ref x3)] []) _
  refine own_st (fun t_ k_ => XS.aloadN X6.here hx rfl (hb hby d9_14) rfl rfl (XS.aloadN X6.here hx rfl (hb hby d9_15) rfl rfl k_)) ?_
  show own_Go p e below T6 (mkF m 16 #[.val (.ref a1), .val (.ref x1), .val (.ref x2), .val (.ref x3)] [(.ref x3), (.ref a1)]) _
  have f8 := (f4.wr W6)
  have f9 := ((pF_message_a1.other W2 (Or.inr (slot_ne (Or.inr (own_w hw 58 rfl)) (Or.inr (own_w hw 54 rfl)) (by decide) (t := (.object "java/lang/String")) (t' := (.object "java/lang/String")) (by decide) (by decide)))).other W6 (Or.inr (slot_ne (Or.inr (own_w hw 58 rfl)) (Or.inr (own_w hw 56 rfl)) (by decide) (t := (.object "java/lang/String")) (t' := (.object "java/lang/String")) (by decide) (by decide))))
  obtain ⟨T10, h10, X10, e10, W10, st10⟩ := putF X6 hx hZ hown (host := "") (Or.inl (own_w hw 57 rfl)) Via.refl e6 f9 f8 (Or.inr ⟨(own_w hw 58 rfl), rfl, hnm⟩) (own_w hw 42 rfl) (ty := (.object "java/lang/String")) (by decide) rfl rfl (g := (mkF m 16 #[.val (.ref a1), .val (.ref x1), .val (.ref x2), .val (.ref x3)] [(.ref x3), (.ref a1)])) rfl rfl (hb hby d9_16)
  have F10 := f9.same W10
  have K11 : Keep h0 h10 [a1] := K7.wr W10 (Or.inl (List.mem_of_getElem? (i := 0) rfl))
  have N10 := Fr.snoc X10 N6 pG_a1
  refine own_st st10 ?_
  show own_Go p e below T10 (mkF m 19 #[.val (.ref a1), .val (.ref x1), .val (.ref x2), .val (.ref x3)] []) _
  have f12 := (f8.wr W10)
  have f13 := ((F2.other W6 (Or.inr (slot_ne (Or.inr (own_w hw 54 rfl)) (Or.inr (own_w hw 56 rfl)) (by decide) (t := (.object "java/lang/String")) (t' := (.object "java/lang/String")) (by decide) (by decide)))).other W10 (Or.inr (slot_ne (Or.inr (own_w hw 54 rfl)) (Or.inr (own_w hw 58 rfl)) (by decide) (t := (.object "java/lang/String")) (t' := (.object "java/lang/String")) (by decide) (by decide))))
  have f14 := (F6.other W10 (Or.inr (slot_ne (Or.inr (own_w hw 56 rfl)) (Or.inr (own_w hw 58 rfl)) (by decide) (t := (.object "java/lang/String")) (t' := (.object "java/lang/String")) (by decide) (by decide))))
  obtain ⟨fs, hr, hrun, hended, hW, hsame⟩ := X10.leave (v := none) (fun _ => rfl)
  refine own_fin (X10.returnOut hx Bd.returns (hb hby d9_19) hr) ⟨hrun, hended, _, _, rfl, ?_, ⟨_, rfl⟩, hW, hsame.mono (by decide) (by decide)⟩
  show Q_rmSi Z a1 x1 x2 x3 u1 u2 u3 h0 n0 _ T10.heap _
  rw [e10]
  exact ⟨rfl, N10, K11, f12, f13, f14, F10⟩
theorem d11_0 : decode prog_13_method_2_code 0 = .ok (.new 19, 3) := by decide +kernel
theorem d11_3 : decode prog_13_method_2_code 3 = .ok (.dup, 1) := by decide +kernel
theorem d11_4 : decode prog_13_method_2_code 4 = .ok (.invokespecial 21, 3) := by decide +kernel
theorem d11_7 : decode prog_13_method_2_code 7 = .ok (.aload_n 0, 1) := by decide +kernel
theorem d11_8 : decode prog_13_method_2_code 8 = .ok (.getfield 7, 3) := by decide +kernel
theorem d11_11 : decode prog_13_method_2_code 11 = .ok (.invokevirtual 22, 3) := by decide +kernel
theorem d11_14 : decode prog_13_method_2_code 14 = .ok (.ldc 26, 2) := by decide +kernel
theorem d11_16 : decode prog_13_method_2_code 16 = .ok (.invokevirtual 22, 3) := by decide +kernel
theorem d11_19 : decode prog_13_method_2_code 19 = .ok (.aload_n 0, 1) := by decide +kernel
theorem d11_20 : decode prog_13_method_2_code 20 = .ok (.getfield 13, 3) := by decide +kernel
theorem d11_23 : decode prog_13_method_2_code 23 = .ok (.invokevirtual 22, 3) := by decide +kernel
theorem d11_26 : decode prog_13_method_2_code 26 = .ok (.ldc 28, 2) := by decide +kernel
theorem d11_28 : decode prog_13_method_2_code 28 = .ok (.invokevirtual 22, 3) := by decide +kernel
theorem d11_31 : decode prog_13_method_2_code 31 = .ok (.aload_n 0, 1) := by decide +kernel
theorem d11_32 : decode prog_13_method_2_code 32 = .ok (.getfield 16, 3) := by decide +kernel
theorem d11_35 : decode prog_13_method_2_code 35 = .ok (.invokevirtual 22, 3) := by decide +kernel
theorem d11_38 : decode prog_13_method_2_code 38 = .ok (.invokevirtual 30, 3) := by decide +kernel
theorem d11_41 : decode prog_13_method_2_code 41 = .ok (.areturn, 1) := by decide +kernel
theorem pn_11 : plainName "com/example/beanharness/beanharness/Finding" = true := by first | (simp [plainName, overriddenIn]; done) | decide +kernel
theorem pd__Ljava_lang_String__Ljava_lang_StringBuilder_ : parseMethodDescriptor "(Ljava/lang/String;)Ljava/lang/StringBuilder;" = some ⟨[(.object "java/lang/String")], some (.object "java/lang/StringBuilder")⟩ := by decide +kernel
theorem pd___Ljava_lang_String_ : parseMethodDescriptor "()Ljava/lang/String;" = some ⟨[], some (.object "java/lang/String")⟩ := by decide +kernel
theorem ef_rmTo (m : MethodId) (x0 : Addr) : entryFrame m #[(.ref x0)] 1 = mkF m 0 #[.val (.ref x0)] [] := by first | (simp [entryFrame, mkF, argsToLocals, Value.category]; done) | rfl
def Q_rmTo (Z : State) (ob : Addr) (x1 : Addr) (t1_ : Addr) (k1_ : ClassId) (s1 : List Int32) (x2 : Addr) (t2_ : Addr) (k2_ : ClassId) (s2 : List Int32) (x3 : Addr) (t3_ : Addr) (k3_ : ClassId) (s3 : List Int32) (zc : Int32) (h0 : Heap) (n0 : Nat) (v : Option Value) (h : Heap) (L : List Loc) : Prop := ∃ y : Addr, ∃ b : Addr, ∃ kb : ClassId, v = some (.ref y) ∧ Fr n0 L ∧ Keep h0 h [] ∧ Exa Z h y "java/lang/String" ∧ Fld Z h y "java/lang/String" "value" "[B" (.ref b) ∧ Fld Z h y "java/lang/String" "coder" "B" (.int (0 : Int32)) ∧ Arv Z h b kb .byte (Int32.ofNat ((own_all s1 s2 s3) : List Int32).length) ((((own_all s1 s2 s3) : List Int32).map (fun c : Int32 => c.toInt8.toInt32)).map Value.int) (.int 0)
set_option maxRecDepth 65536 in
set_option maxHeartbeats 40000000 in
theorem rmTo (l : Launch) (Z : State) (a0 : Array Value) (hw : ∀ d ∈ tables_1, d.before a0 Z = true) (ws : List Jvm.Cond) (ob : Addr) (x1 : Addr) (t1_ : Addr) (k1_ : ClassId) (s1 : List Int32) (x2 : Addr) (t2_ : Addr) (k2_ : ClassId) (s2 : List Int32) (x3 : Addr) (t3_ : Addr) (k3_ : ClassId) (s3 : List Int32) (zc : Int32) (h0 : Heap) (n0 : Nat) (Z0 : n0 ≤ h0.size) (pE_ob : Exa Z h0 ob "com/example/beanharness/beanharness/Finding") (pF_property_ob : Fld Z h0 ob "com/example/beanharness/beanharness/Finding" "property" "Ljava/lang/String;" (.ref x1)) (pF_check_ob : Fld Z h0 ob "com/example/beanharness/beanharness/Finding" "check" "Ljava/lang/String;" (.ref x2)) (pF_message_ob : Fld Z h0 ob "com/example/beanharness/beanharness/Finding" "message" "Ljava/lang/String;" (.ref x3)) (pE_x1 : Exa Z h0 x1 "java/lang/String") (pF_value_x1 : Fld Z h0 x1 "java/lang/String" "value" "[B" (.ref t1_)) (pF_coder_x1 : Fld Z h0 x1 "java/lang/String" "coder" "B" (.int (0 : Int32))) (pV_t1_ : Arv Z h0 t1_ k1_ .byte (Int32.ofNat (s1 : List Int32).length) (((s1 : List Int32).map (fun c : Int32 => c.toInt8.toInt32)).map Value.int) (.int 0)) (pE_x2 : Exa Z h0 x2 "java/lang/String") (pF_value_x2 : Fld Z h0 x2 "java/lang/String" "value" "[B" (.ref t2_)) (pF_coder_x2 : Fld Z h0 x2 "java/lang/String" "coder" "B" (.int (0 : Int32))) (pV_t2_ : Arv Z h0 t2_ k2_ .byte (Int32.ofNat (s2 : List Int32).length) (((s2 : List Int32).map (fun c : Int32 => c.toInt8.toInt32)).map Value.int) (.int 0)) (pE_x3 : Exa Z h0 x3 "java/lang/String") (pF_value_x3 : Fld Z h0 x3 "java/lang/String" "value" "[B" (.ref t3_)) (pF_coder_x3 : Fld Z h0 x3 "java/lang/String" "coder" "B" (.int (0 : Int32))) (pV_t3_ : Arv Z h0 t3_ k3_ .byte (Int32.ofNat (s3 : List Int32).length) (((s3 : List Int32).map (fun c : Int32 => c.toInt8.toInt32)).map Value.int) (.int 0)) (hl1 : (s1.length ≤ 2)) (hl2 : (s2.length ≤ 2)) (hl3 : (s3.length ≤ 2)) (pS_COMPACT_STRINGS : Sta Z Z.heap "java/lang/String" "COMPACT_STRINGS" "Z" (.int zc)) (pP5 : (¬ (zc = (0 : Int32)))) (pO : Old Z n0 h0) :
    MetFree l (⟨"com/example/beanharness/beanharness/Finding", "toString", "()Ljava/lang/String;"⟩ : MethodName) (head1 (Jvm.Cond.code (⟨"com/example/beanharness/beanharness/Finding", "toString", "()Ljava/lang/String;"⟩ : MethodName) prog_13_method_2_code 1 (some (.object "java/lang/String")) :: ws) ({ frames := 6, cells := 8, slots := 68, locals := 193 } : Room)) (fun a U => a = #[(.ref ob)] ∧ Z.Warmed39 U.vm ∧ U.heap = h0 ∧ CHv Z own_EL U.vm h0) (fun _ _ _ _ _ => True) (fun _ U o U' => ∃ v L, o = .returned v ∧ Q_rmTo Z ob x1 t1_ k1_ s1 x2 t2_ k2_ s2 x3 t3_ k3_ s3 zc h0 n0 v U'.heap L ∧ CHr Z own_EL U.vm U.heap U'.vm U'.heap ∧ ReturnedEndW U o U' L ({ frames := 6, cells := 8, slots := 68, locals := 193 } : Room).cells ({ frames := 6, cells := 8, slots := 68, locals := 193 } : Room).slots) := by
  refine MetFree.of_bodySF (plainFor_of_name pn_11) hisR ?_
  intro p e s m args below meth c s₁ Bd hml0 hP hK
  obtain ⟨rfl, hZ, hh, hCH⟩ := hP
  have hx := Bd.exec
  have hby := Bd.bytes
  have hml : c.maxLocals = 1 := hml0
  have hown : s.vm.findClass "com/example/beanharness/beanharness/Finding" = some m.cls := findClass_of_methodNamed Bd.named
  have hnm := (name_of_methodNamed Bd.named Bd.method).1
  have X0 : Stand p l e ({ frames := 6, cells := 8, slots := 68, locals := 193 } : Room) (s.setVm s.vm) m #[(.ref ob)] below meth c s₁ [] 0 0 := Stand.of_body Bd
  have e0 : s₁.heap = h0 := by rw [← hh, Bd.state]; rfl
  have N0 := Fr.nil n0
  have hEL := own_EW hw
  have hCR := CHr.refl hCH
  have hS : s.Since s.vm h0.size := (State.WarmedH.refl s).since _
  have hK0 : h0.size ≤ h0.size := Nat.le_refl _
  refine own_enter (ef_rmTo m ob) ?_
  have n1_ : (Int32.ofNat (s1 : List Int32).length).toInt = ((((s1 : List Int32).map (fun c : Int32 => c.toInt8.toInt32)).map Value.int).length : Int) := by rw [own_ofNat (by omega), List.length_map, List.length_map]
  have n2_ : (Int32.ofNat (s2 : List Int32).length).toInt = ((((s2 : List Int32).map (fun c : Int32 => c.toInt8.toInt32)).map Value.int).length : Int) := by rw [own_ofNat (by omega), List.length_map, List.length_map]
  have n3_ : (Int32.ofNat (s3 : List Int32).length).toInt = ((((s3 : List Int32).map (fun c : Int32 => c.toInt8.toInt32)).map Value.int).length : Int) := by rw [own_ofNat (by omega), List.length_map, List.length_map]
  obtain ⟨T1, h1, X1, e1, E1, A1, D1, -, st1⟩ := newO X0 hx hZ hown (own_w hw 64 rfl) (own_w hw 65 rfl) (own_w hw 66 rfl) e0 (g := (mkF m 0 #[.val (.ref ob)] [])) rfl (hb hby d11_0) (by decide) (by decide)
  obtain ⟨b1, g1⟩ : ∃ z, z = h0.size := ⟨_, rfl⟩
  rw [← g1] at A1 D1 st1
  have G1 : n0 ≤ b1 := Nat.le_trans Z0 (Nat.le_of_eq g1.symm)
  have B1 : h0.size ≤ b1 := Nat.le_trans (Keep.refl h0 []).1 (Nat.le_of_eq g1.symm)
  have CH2 := hCH.ext E1
  have CR2 := CHr.trans hCR (CHr.ext E1 hCH)
  have K3 : Keep h0 h1 [] := (Keep.refl h0 []).ext E1
  have D1_value : Fld Z h1 b1 "java/lang/AbstractStringBuilder" "value" "[B" .null := D1 (Or.inl (own_w hw 79 rfl)) (ty := (.array .byte)) (by decide)
  have D1_coder : Fld Z h1 b1 "java/lang/AbstractStringBuilder" "coder" "B" (.int (0 : Int32)) := D1 (Or.inl (own_w hw 81 rfl)) (ty := .byte) (by decide)
  have D1_count : Fld Z h1 b1 "java/lang/AbstractStringBuilder" "count" "I" (.int (0 : Int32)) := D1 (Or.inl (own_w hw 103 rfl)) (ty := .int) (by decide)
  refine own_st st1 ?_
  show own_Go p e below T1 (mkF m 3 #[.val (.ref ob)] [(.ref b1)]) _
  refine own_st (fun t_ k_ => XS.dup X1.here hx rfl (hb hby d11_3) rfl rfl k_) ?_
  show own_Go p e below T1 (mkF m 4 #[.val (.ref ob)] [(.ref b1), (.ref b1)]) _
  have f4 := (Nat.le_trans Z0 E1.1)
  have f5 := (pO.ext E1)
  obtain ⟨_, _, ⟨T6, L6, k6, n6⟩, -, X6, ⟨Lc6, hQ6, l6, y6, z6⟩, st6⟩ := X1.specialBack hx (y := (⟨"java/lang/StringBuilder", "<init>", "()V"⟩ : MethodName)) rfl hown (mvT hZ (own_w hw 67 rfl)) (mvT hZ (own_w hw 68 rfl)) (mvT hZ (own_w hw 69 rfl)) (by decide) (backOf (W := 1) (rmSbI l Z a0 hw [] b1 .null ((.int (0 : Int32))) zc h1 n0 f4 A1 D1_value D1_coder D1_count G1 pS_COMPACT_STRINGS pP5 f5) hZ (own_w hw 69 rfl) (own_w hw 66 rfl) (by decide) (by decide)) (g := (mkF m 4 #[.val (.ref ob)] [(.ref b1), (.ref b1)])) rfl (by rw [hml]; rfl) (Steps.refl _) (a := b1) (argsL := []) (rest := [(.ref b1)]) (lenOf pd___V rfl) rfl (by show 2 * 0 + _ ≤ _; exact Nat.le_of_eq rfl) (hb hby d11_4) (fun _ _ => ⟨rfl, e1, (by decide : 1 + 1 ≤ _), (by decide : 4 + 16 ≤ _)⟩)
  dsimp only [Pt.U, Pt.locs, Pt.cells, Pt.slots] at X6 l6 y6 z6 st6 hQ6
  try dsimp only [Nat.reduceAdd] at y6 z6
  rw [l6, y6, z6] at X6
  obtain ⟨va_6, kva_6, rfl, Nq6, Kq6, q6_0, q6_1, q6_2, q6_3, q6_4, q6_5, q6_6⟩ := hQ6
  have N6 := Fr.app N0 Nq6
  have Sa7 : ∀ y ∈ [b1], Safe Z own_EL s.vm h1 y := (sfS (Safe.exa hZ.alike A1 (by decide) (by decide)) sf0)
  have CH7 := CH2.keep Kq6 Sa7
  have CR7 := CHr.trans CR2 (CHr.keep Kq6 Sa7 CH2)
  have K8 : Keep h0 T6.heap [] := K3.trans Kq6 (allS (Or.inr B1) all0)
  have Bf9 : h0.size ≤ va_6 := Nat.le_trans K3.1 q6_5
  refine own_tr st6 ?_
  show own_Go p e below T6 (mkF m 7 #[.val (.ref ob)] [(.ref b1)]) _
  have hb0 : (0 : Int32).toInt = (([] : List Value).length : Int) := rfl
  have hr0 : ([(.int 0), (.int 0), (.int 0), (.int 0), (.int 0), (.int 0), (.int 0), (.int 0), (.int 0), (.int 0), (.int 0), (.int 0), (.int 0), (.int 0), (.int 0), (.int 0)] : List Value).length = 16 := rfl
  refine own_st (fun t_ k_ => XS.aloadN X6.here hx rfl (hb hby d11_7) rfl rfl k_) ?_
  show own_Go p e below T6 (mkF m 8 #[.val (.ref ob)] [(.ref ob), (.ref b1)]) _
  have f10 := ((pF_property_ob.ext E1).keep Kq6 (ninS (Nat.ne_of_lt (Nat.lt_of_lt_of_le pE_ob.lt (Nat.le_of_eq g1.symm))) nin0))
  obtain ⟨T11, X11, e11, st11⟩ := getF X6 hx hZ hown (host := "") (Or.inl (own_w hw 53 rfl)) Via.refl rfl f10 (g := (mkF m 8 #[.val (.ref ob)] [(.ref ob), (.ref b1)])) rfl rfl (hb hby d11_8)
  refine own_st st11 ?_
  show own_Go p e below T11 (mkF m 11 #[.val (.ref ob)] [(.ref x1), (.ref b1)]) _
  have ul0 : (((s1 : List Int32).map (fun c : Int32 => c.toInt8.toInt32)).map Value.int : List Value).length ≤ 2 := by simp only [List.length_map, List.length_cons, List.length_nil]; omega
  have rl0 : (([] : List Value).length + ([(.int 0), (.int 0), (.int 0), (.int 0), (.int 0), (.int 0), (.int 0), (.int 0), (.int 0), (.int 0), (.int 0), (.int 0), (.int 0), (.int 0), (.int 0), (.int 0)] : List Value).length) = 16 ∧ ([] : List Value).length ≤ 0 := by
    exact ⟨rfl, Nat.le_refl _⟩
  have f12 := (Nat.le_trans f4 Kq6.1)
  have f13 := ((pE_x1.ext E1).keep Kq6)
  have f14 := ((pF_value_x1.ext E1).keep Kq6 (ninS (Nat.ne_of_lt (Nat.lt_of_lt_of_le pE_x1.lt (Nat.le_of_eq g1.symm))) nin0))
  have f15 := ((pF_coder_x1.ext E1).keep Kq6 (ninS (Nat.ne_of_lt (Nat.lt_of_lt_of_le pE_x1.lt (Nat.le_of_eq g1.symm))) nin0))
  have f16 := ((pV_t1_.ext E1).keep Kq6 (ninS (Nat.ne_of_lt (Nat.lt_of_lt_of_le pV_t1_.lt (Nat.le_of_eq g1.symm))) nin0))
  have f17 := (f5.keep Kq6 (allS G1 all0))
  obtain ⟨cq18, kq18, qa18, qb18, qc18⟩ := isOf hZ e11 q6_0
  obtain ⟨_, _, ⟨T18, L18, k18, n18⟩, -, X18, ⟨Lc18, hQ18, l18, y18, z18⟩, st18⟩ := X11.virtualBack hx (y := (⟨"java/lang/StringBuilder", "append", "(Ljava/lang/String;)Ljava/lang/StringBuilder;"⟩ : MethodName)) (z := (⟨"java/lang/StringBuilder", "append", "(Ljava/lang/String;)Ljava/lang/StringBuilder;"⟩ : MethodName)) hown (mvT hZ (own_w hw 82 rfl)) (mvT hZ (own_w hw 83 rfl)) (notFace_of_selects (args := #[]) (mvT hZ (own_w hw 85 rfl))) (mvT hZ (own_w hw 85 rfl)) (mvT hZ (own_w hw 84 rfl)) (by decide) (backOf (W := 0) (rmSbA l Z a0 hw [] b1 va_6 kva_6 ((16 : Int32)) ((0 : Int32)) ([]) ([(.int 0), (.int 0), (.int 0), (.int 0), (.int 0), (.int 0), (.int 0), (.int 0), (.int 0), (.int 0), (.int 0), (.int 0), (.int 0), (.int 0), (.int 0), (.int 0)]) x1 t1_ k1_ ((Int32.ofNat (s1 : List Int32).length)) (((s1 : List Int32).map (fun c : Int32 => c.toInt8.toInt32)).map Value.int) zc T6.heap n0 f12 q6_0 q6_1 q6_2 q6_3 q6_4 f13 f14 f15 f16 hb0 (by rw [rl0.1]; rfl) n1_ (by omega) (by omega) G1 q6_6 pS_COMPACT_STRINGS pP5 f17) hZ (own_w hw 86 rfl) (own_w hw 66 rfl) (by decide) (by decide)) qa18 qc18 (g := (mkF m 11 #[.val (.ref ob)] [(.ref x1), (.ref b1)])) rfl (by rw [hml]; rfl) (Steps.refl _) (argsL := [(.ref x1)]) (rest := []) (lenOf pd__Ljava_lang_String__Ljava_lang_StringBuilder_ rfl) rfl (by show 2 * 0 + _ ≤ _; exact Nat.le_of_eq rfl) (hb hby d11_11) (fun _ _ => ⟨rfl, e11, (by decide : 2 + 0 ≤ _), (by decide : 20 + 0 ≤ _)⟩)
  dsimp only [Pt.U, Pt.locs, Pt.cells, Pt.slots] at X18 l18 y18 z18 st18 hQ18
  try dsimp only [Nat.reduceAdd] at y18 z18
  rw [l18, y18, z18] at X18
  obtain ⟨rfl, Nq18, Kq18, q18_0, q18_1, q18_2, q18_3, q18_4⟩ := hQ18
  have N18 := Fr.app N6 Nq18
  have f20 := (Safe.keep Kq6 Sa7 CH2 (Safe.new (x := va_6) q6_5))
  have Sa19 : ∀ y ∈ [b1, va_6], Safe Z own_EL s.vm T6.heap y := (sfS (Safe.exa hZ.alike q6_0 (by decide) (by decide)) (sfS f20 sf0))
  have CH19 := CH7.keep Kq18 Sa19
  have CR19 := CHr.trans CR7 (CHr.keep Kq18 Sa19 CH7)
  have K21 : Keep h0 T18.heap [] := K8.trans Kq18 (allS (Or.inr B1) (allS (Or.inr Bf9) all0))
  refine own_tr st18 ?_
  show own_Go p e below T18 (mkF m 14 #[.val (.ref ob)] [(.ref b1)]) _
  obtain ⟨Bz1, hB1_⟩ : ∃ b : List Value, b = ([]) ++ ((s1 : List Int32).map (fun c : Int32 => c.toInt8.toInt32)).map Value.int := ⟨_, rfl⟩
  obtain ⟨Rz1, hR1_⟩ : ∃ b : List Value, b = List.drop (((s1 : List Int32).map (fun c : Int32 => c.toInt8.toInt32)).map Value.int : List Value).length ([(.int 0), (.int 0), (.int 0), (.int 0), (.int 0), (.int 0), (.int 0), (.int 0), (.int 0), (.int 0), (.int 0), (.int 0), (.int 0), (.int 0), (.int 0), (.int 0)]) := ⟨_, rfl⟩
  obtain ⟨Cz1, hC1_⟩ : ∃ c : Int32, c = (0 : Int32) + (Int32.ofNat (s1 : List Int32).length) := ⟨_, rfl⟩
  rw [← hB1_, ← hR1_] at q18_4
  rw [← hC1_] at q18_3
  have hb1 : Cz1.toInt = (Bz1.length : Int) := by rw [hC1_, hB1_, List.length_append]; exact own_addI hb0 n1_ (by omega)
  have f23 := (Nat.le_trans (Nat.le_trans (Nat.le_trans hK0 E1.1) Kq6.1) Kq18.1)
  obtain ⟨b22, T22, h22, k22, t22, kb22, X22, e22, E22, hS, hk22, hZ, hown, xE22, xC22, xV22, xA22, -, -, A22, -, -, st22⟩ := ldcCH X18 hx hZ hown (own_w hw 129 rfl) (own_wS hw) rfl hS f23 hEL (List.mem_of_getElem? (i := 0) rfl) CH19 (vs := [(.int 32), (.int 91)]) (z := (2 : Int32)) (by decide +kernel) (by decide) (by decide) (g := (mkF m 14 #[.val (.ref ob)] [(.ref b1)])) rfl (hb hby d11_14) (n := 8) (by decide) (by decide) (by decide) (by decide)
  have CH24 := A22.1
  have CR24 := CHr.trans CR19 (A22)
  have K25 : Keep h0 h22 [] := K21.ext E22
  refine own_st st22 ?_
  show own_Go p e below T22 (mkF m 16 #[.val (.ref ob)] [(.ref b22), (.ref b1)]) _
  have ul1 : ([(.int 32), (.int 91)] : List Value).length ≤ 2 := by simp only [List.length_map, List.length_cons, List.length_nil]; omega
  have rl1 : ((Bz1 : List Value).length + (Rz1 : List Value).length) = 16 ∧ (Bz1 : List Value).length ≤ 2 := by
    rw [hB1_, hR1_]; simp only [List.length_append, List.length_drop]; omega
  have f26 := (Nat.le_trans (Nat.le_trans f12 Kq18.1) E22.1)
  have f27 := (q18_0.ext E22)
  have f28 := (q18_1.ext E22)
  have f29 := (q18_2.ext E22)
  have f30 := (q18_3.ext E22)
  have f31 := (q18_4.ext E22)
  have f32 := ((f17.keep Kq18 (allS G1 (allS q6_6 all0))).ext E22)
  obtain ⟨cq33, kq33, qa33, qb33, qc33⟩ := isOf hZ e22 f27
  obtain ⟨_, _, ⟨T33, L33, k33, n33⟩, -, X33, ⟨Lc33, hQ33, l33, y33, z33⟩, st33⟩ := X22.virtualBack hx (y := (⟨"java/lang/StringBuilder", "append", "(Ljava/lang/String;)Ljava/lang/StringBuilder;"⟩ : MethodName)) (z := (⟨"java/lang/StringBuilder", "append", "(Ljava/lang/String;)Ljava/lang/StringBuilder;"⟩ : MethodName)) hown (mvT hZ (own_w hw 82 rfl)) (mvT hZ (own_w hw 83 rfl)) (notFace_of_selects (args := #[]) (mvT hZ (own_w hw 85 rfl))) (mvT hZ (own_w hw 85 rfl)) (mvT hZ (own_w hw 84 rfl)) (by decide) (backOf (W := 0) (rmSbA l Z a0 hw [] b1 va_6 kva_6 ((16 : Int32)) Cz1 Bz1 Rz1 b22 t22 kb22 ((2 : Int32)) ([(.int 32), (.int 91)]) zc h22 n0 f26 f27 f28 f29 f30 f31 xE22 xV22 xC22 xA22 hb1 (by rw [rl1.1]; rfl) rfl (by omega) (by omega) G1 q6_6 pS_COMPACT_STRINGS pP5 f32) hZ (own_w hw 86 rfl) (own_w hw 66 rfl) (by decide) (by decide)) qa33 qc33 (g := (mkF m 16 #[.val (.ref ob)] [(.ref b22), (.ref b1)])) rfl (by rw [hml]; rfl) (Steps.refl _) (argsL := [(.ref b22)]) (rest := []) (lenOf pd__Ljava_lang_String__Ljava_lang_StringBuilder_ rfl) rfl (by show 2 * 0 + _ ≤ _; exact Nat.le_of_eq rfl) (hb hby d11_16) (fun _ _ => ⟨rfl, e22, (by decide : 4 + 0 ≤ _), (by decide : 32 + 0 ≤ _)⟩)
  dsimp only [Pt.U, Pt.locs, Pt.cells, Pt.slots] at X33 l33 y33 z33 st33 hQ33
  try dsimp only [Nat.reduceAdd] at y33 z33
  rw [l33, y33, z33] at X33
  obtain ⟨rfl, Nq33, Kq33, q33_0, q33_1, q33_2, q33_3, q33_4⟩ := hQ33
  have N33 := Fr.app N18 Nq33
  have f35 := (CHr.safe A22 q18_4.lt (Safe.keep Kq18 Sa19 CH7 f20))
  have Sa34 : ∀ y ∈ [b1, va_6], Safe Z own_EL T22.vm h22 y := (sfS (Safe.exa hZ.alike f27 (by decide) (by decide)) (sfS f35 sf0))
  have CH34 := CH24.keep Kq33 Sa34
  have CR34 := CHr.trans CR24 (CHr.keep Kq33 Sa34 CH24)
  have K36 : Keep h0 T33.heap [] := K25.trans Kq33 (allS (Or.inr B1) (allS (Or.inr Bf9) all0))
  refine own_tr st33 ?_
  show own_Go p e below T33 (mkF m 19 #[.val (.ref ob)] [(.ref b1)]) _
  obtain ⟨Bz2, hB2_⟩ : ∃ b : List Value, b = (Bz1) ++ [(.int 32), (.int 91)] := ⟨_, rfl⟩
  obtain ⟨Rz2, hR2_⟩ : ∃ b : List Value, b = List.drop ([(.int 32), (.int 91)] : List Value).length (Rz1) := ⟨_, rfl⟩
  obtain ⟨Cz2, hC2_⟩ : ∃ c : Int32, c = Cz1 + (2 : Int32) := ⟨_, rfl⟩
  rw [← hB2_, ← hR2_] at q33_4
  rw [← hC2_] at q33_3
  have hb2 : Cz2.toInt = (Bz2.length : Int) := by rw [hC2_, hB2_, List.length_append]; exact own_addI hb1 rfl (by omega)
  refine own_st (fun t_ k_ => XS.aloadN X33.here hx rfl (hb hby d11_19) rfl rfl k_) ?_
  show own_Go p e below T33 (mkF m 20 #[.val (.ref ob)] [(.ref ob), (.ref b1)]) _
  have f37 := (((((pF_check_ob.ext E1).keep Kq6 (ninS (Nat.ne_of_lt (Nat.lt_of_lt_of_le pE_ob.lt (Nat.le_of_eq g1.symm))) nin0)).keep Kq18 (ninS (Nat.ne_of_lt (Nat.lt_of_lt_of_le pE_ob.lt (Nat.le_of_eq g1.symm))) (ninS (Nat.ne_of_lt (Nat.lt_of_lt_of_le (pE_ob.ext E1).lt q6_5)) nin0))).ext E22).keep Kq33 (ninS (Nat.ne_of_lt (Nat.lt_of_lt_of_le pE_ob.lt (Nat.le_of_eq g1.symm))) (ninS (Nat.ne_of_lt (Nat.lt_of_lt_of_le (pE_ob.ext E1).lt q6_5)) nin0)))
  obtain ⟨T38, X38, e38, st38⟩ := getF X33 hx hZ hown (host := "") (Or.inl (own_w hw 55 rfl)) Via.refl rfl f37 (g := (mkF m 20 #[.val (.ref ob)] [(.ref ob), (.ref b1)])) rfl rfl (hb hby d11_20)
  refine own_st st38 ?_
  show own_Go p e below T38 (mkF m 23 #[.val (.ref ob)] [(.ref x2), (.ref b1)]) _
  have ul2 : (((s2 : List Int32).map (fun c : Int32 => c.toInt8.toInt32)).map Value.int : List Value).length ≤ 2 := by simp only [List.length_map, List.length_cons, List.length_nil]; omega
  have rl2 : ((Bz2 : List Value).length + (Rz2 : List Value).length) = 16 ∧ (Bz2 : List Value).length ≤ 4 := by
    rw [hB2_, hR2_]; simp only [List.length_append, List.length_drop]; omega
  have f39 := (Nat.le_trans f26 Kq33.1)
  have f40 := (((((pE_x2.ext E1).keep Kq6).keep Kq18).ext E22).keep Kq33)
  have f41 := (((((pF_value_x2.ext E1).keep Kq6 (ninS (Nat.ne_of_lt (Nat.lt_of_lt_of_le pE_x2.lt (Nat.le_of_eq g1.symm))) nin0)).keep Kq18 (ninS (Nat.ne_of_lt (Nat.lt_of_lt_of_le pE_x2.lt (Nat.le_of_eq g1.symm))) (ninS (Nat.ne_of_lt (Nat.lt_of_lt_of_le (pE_x2.ext E1).lt q6_5)) nin0))).ext E22).keep Kq33 (ninS (Nat.ne_of_lt (Nat.lt_of_lt_of_le pE_x2.lt (Nat.le_of_eq g1.symm))) (ninS (Nat.ne_of_lt (Nat.lt_of_lt_of_le (pE_x2.ext E1).lt q6_5)) nin0)))
  have f42 := (((((pF_coder_x2.ext E1).keep Kq6 (ninS (Nat.ne_of_lt (Nat.lt_of_lt_of_le pE_x2.lt (Nat.le_of_eq g1.symm))) nin0)).keep Kq18 (ninS (Nat.ne_of_lt (Nat.lt_of_lt_of_le pE_x2.lt (Nat.le_of_eq g1.symm))) (ninS (Nat.ne_of_lt (Nat.lt_of_lt_of_le (pE_x2.ext E1).lt q6_5)) nin0))).ext E22).keep Kq33 (ninS (Nat.ne_of_lt (Nat.lt_of_lt_of_le pE_x2.lt (Nat.le_of_eq g1.symm))) (ninS (Nat.ne_of_lt (Nat.lt_of_lt_of_le (pE_x2.ext E1).lt q6_5)) nin0)))
  have f43 := (((((pV_t2_.ext E1).keep Kq6 (ninS (Nat.ne_of_lt (Nat.lt_of_lt_of_le pV_t2_.lt (Nat.le_of_eq g1.symm))) nin0)).keep Kq18 (ninS (Nat.ne_of_lt (Nat.lt_of_lt_of_le pV_t2_.lt (Nat.le_of_eq g1.symm))) (ninS (Nat.ne_of_lt (Nat.lt_of_lt_of_le (pV_t2_.ext E1).lt q6_5)) nin0))).ext E22).keep Kq33 (ninS (Nat.ne_of_lt (Nat.lt_of_lt_of_le pV_t2_.lt (Nat.le_of_eq g1.symm))) (ninS (Nat.ne_of_lt (Nat.lt_of_lt_of_le (pV_t2_.ext E1).lt q6_5)) nin0)))
  have f44 := (f32.keep Kq33 (allS G1 (allS q6_6 all0)))
  obtain ⟨cq45, kq45, qa45, qb45, qc45⟩ := isOf hZ e38 q33_0
  obtain ⟨_, _, ⟨T45, L45, k45, n45⟩, -, X45, ⟨Lc45, hQ45, l45, y45, z45⟩, st45⟩ := X38.virtualBack hx (y := (⟨"java/lang/StringBuilder", "append", "(Ljava/lang/String;)Ljava/lang/StringBuilder;"⟩ : MethodName)) (z := (⟨"java/lang/StringBuilder", "append", "(Ljava/lang/String;)Ljava/lang/StringBuilder;"⟩ : MethodName)) hown (mvT hZ (own_w hw 82 rfl)) (mvT hZ (own_w hw 83 rfl)) (notFace_of_selects (args := #[]) (mvT hZ (own_w hw 85 rfl))) (mvT hZ (own_w hw 85 rfl)) (mvT hZ (own_w hw 84 rfl)) (by decide) (backOf (W := 0) (rmSbA l Z a0 hw [] b1 va_6 kva_6 ((16 : Int32)) Cz2 Bz2 Rz2 x2 t2_ k2_ ((Int32.ofNat (s2 : List Int32).length)) (((s2 : List Int32).map (fun c : Int32 => c.toInt8.toInt32)).map Value.int) zc T33.heap n0 f39 q33_0 q33_1 q33_2 q33_3 q33_4 f40 f41 f42 f43 hb2 (by rw [rl2.1]; rfl) n2_ (by omega) (by omega) G1 q6_6 pS_COMPACT_STRINGS pP5 f44) hZ (own_w hw 86 rfl) (own_w hw 66 rfl) (by decide) (by decide)) qa45 qc45 (g := (mkF m 23 #[.val (.ref ob)] [(.ref x2), (.ref b1)])) rfl (by rw [hml]; rfl) (Steps.refl _) (argsL := [(.ref x2)]) (rest := []) (lenOf pd__Ljava_lang_String__Ljava_lang_StringBuilder_ rfl) rfl (by show 2 * 0 + _ ≤ _; exact Nat.le_of_eq rfl) (hb hby d11_23) (fun _ _ => ⟨rfl, e38, (by decide : 4 + 0 ≤ _), (by decide : 32 + 0 ≤ _)⟩)
  dsimp only [Pt.U, Pt.locs, Pt.cells, Pt.slots] at X45 l45 y45 z45 st45 hQ45
  try dsimp only [Nat.reduceAdd] at y45 z45
  rw [l45, y45, z45] at X45
  obtain ⟨rfl, Nq45, Kq45, q45_0, q45_1, q45_2, q45_3, q45_4⟩ := hQ45
  have N45 := Fr.app N33 Nq45
  have f47 := (Safe.keep Kq33 Sa34 CH24 f35)
  have Sa46 : ∀ y ∈ [b1, va_6], Safe Z own_EL T22.vm T33.heap y := (sfS (Safe.exa hZ.alike q33_0 (by decide) (by decide)) (sfS f47 sf0))
  have CH46 := CH34.keep Kq45 Sa46
  have CR46 := CHr.trans CR34 (CHr.keep Kq45 Sa46 CH34)
  have K48 : Keep h0 T45.heap [] := K36.trans Kq45 (allS (Or.inr B1) (allS (Or.inr Bf9) all0))
  refine own_tr st45 ?_
  show own_Go p e below T45 (mkF m 26 #[.val (.ref ob)] [(.ref b1)]) _
  obtain ⟨Bz3, hB3_⟩ : ∃ b : List Value, b = (Bz2) ++ ((s2 : List Int32).map (fun c : Int32 => c.toInt8.toInt32)).map Value.int := ⟨_, rfl⟩
  obtain ⟨Rz3, hR3_⟩ : ∃ b : List Value, b = List.drop (((s2 : List Int32).map (fun c : Int32 => c.toInt8.toInt32)).map Value.int : List Value).length (Rz2) := ⟨_, rfl⟩
  obtain ⟨Cz3, hC3_⟩ : ∃ c : Int32, c = Cz2 + (Int32.ofNat (s2 : List Int32).length) := ⟨_, rfl⟩
  rw [← hB3_, ← hR3_] at q45_4
  rw [← hC3_] at q45_3
  have hb3 : Cz3.toInt = (Bz3.length : Int) := by rw [hC3_, hB3_, List.length_append]; exact own_addI hb2 n2_ (by omega)
  have f50 := (Nat.le_trans (Nat.le_trans hk22 Kq33.1) Kq45.1)
  obtain ⟨b49, T49, h49, k49, t49, kb49, X49, e49, E49, hS, hk49, hZ, hown, xE49, xC49, xV49, xA49, -, -, A49, -, -, st49⟩ := ldcCH X45 hx hZ hown (own_w hw 130 rfl) (own_wS hw) rfl hS f50 hEL (List.mem_of_getElem? (i := 1) rfl) CH46 (vs := [(.int 93), (.int 58), (.int 32)]) (z := (3 : Int32)) (by decide +kernel) (by decide) (by decide) (g := (mkF m 26 #[.val (.ref ob)] [(.ref b1)])) rfl (hb hby d11_26) (n := 12) (by decide) (by decide) (by decide) (by decide)
  have CH51 := A49.1
  have CR51 := CHr.trans CR46 (A49)
  have K52 : Keep h0 h49 [] := K48.ext E49
  refine own_st st49 ?_
  show own_Go p e below T49 (mkF m 28 #[.val (.ref ob)] [(.ref b49), (.ref b1)]) _
  have ul3 : ([(.int 93), (.int 58), (.int 32)] : List Value).length ≤ 3 := by simp only [List.length_map, List.length_cons, List.length_nil]; omega
  have rl3 : ((Bz3 : List Value).length + (Rz3 : List Value).length) = 16 ∧ (Bz3 : List Value).length ≤ 6 := by
    rw [hB3_, hR3_]; simp only [List.length_append, List.length_drop]; omega
  have f53 := (Nat.le_trans (Nat.le_trans f39 Kq45.1) E49.1)
  have f54 := (q45_0.ext E49)
  have f55 := (q45_1.ext E49)
  have f56 := (q45_2.ext E49)
  have f57 := (q45_3.ext E49)
  have f58 := (q45_4.ext E49)
  have f59 := ((f44.keep Kq45 (allS G1 (allS q6_6 all0))).ext E49)
  obtain ⟨cq60, kq60, qa60, qb60, qc60⟩ := isOf hZ e49 f54
  obtain ⟨_, _, ⟨T60, L60, k60, n60⟩, -, X60, ⟨Lc60, hQ60, l60, y60, z60⟩, st60⟩ := X49.virtualBack hx (y := (⟨"java/lang/StringBuilder", "append", "(Ljava/lang/String;)Ljava/lang/StringBuilder;"⟩ : MethodName)) (z := (⟨"java/lang/StringBuilder", "append", "(Ljava/lang/String;)Ljava/lang/StringBuilder;"⟩ : MethodName)) hown (mvT hZ (own_w hw 82 rfl)) (mvT hZ (own_w hw 83 rfl)) (notFace_of_selects (args := #[]) (mvT hZ (own_w hw 85 rfl))) (mvT hZ (own_w hw 85 rfl)) (mvT hZ (own_w hw 84 rfl)) (by decide) (backOf (W := 0) (rmSbA l Z a0 hw [] b1 va_6 kva_6 ((16 : Int32)) Cz3 Bz3 Rz3 b49 t49 kb49 ((3 : Int32)) ([(.int 93), (.int 58), (.int 32)]) zc h49 n0 f53 f54 f55 f56 f57 f58 xE49 xV49 xC49 xA49 hb3 (by rw [rl3.1]; rfl) rfl (by omega) (by omega) G1 q6_6 pS_COMPACT_STRINGS pP5 f59) hZ (own_w hw 86 rfl) (own_w hw 66 rfl) (by decide) (by decide)) qa60 qc60 (g := (mkF m 28 #[.val (.ref ob)] [(.ref b49), (.ref b1)])) rfl (by rw [hml]; rfl) (Steps.refl _) (argsL := [(.ref b49)]) (rest := []) (lenOf pd__Ljava_lang_String__Ljava_lang_StringBuilder_ rfl) rfl (by show 2 * 0 + _ ≤ _; exact Nat.le_of_eq rfl) (hb hby d11_28) (fun _ _ => ⟨rfl, e49, (by decide : 6 + 0 ≤ _), (by decide : 48 + 0 ≤ _)⟩)
  dsimp only [Pt.U, Pt.locs, Pt.cells, Pt.slots] at X60 l60 y60 z60 st60 hQ60
  try dsimp only [Nat.reduceAdd] at y60 z60
  rw [l60, y60, z60] at X60
  obtain ⟨rfl, Nq60, Kq60, q60_0, q60_1, q60_2, q60_3, q60_4⟩ := hQ60
  have N60 := Fr.app N45 Nq60
  have f62 := (CHr.safe A49 q45_4.lt (Safe.keep Kq45 Sa46 CH34 f47))
  have Sa61 : ∀ y ∈ [b1, va_6], Safe Z own_EL T49.vm h49 y := (sfS (Safe.exa hZ.alike f54 (by decide) (by decide)) (sfS f62 sf0))
  have CH61 := CH51.keep Kq60 Sa61
  have CR61 := CHr.trans CR51 (CHr.keep Kq60 Sa61 CH51)
  have K63 : Keep h0 T60.heap [] := K52.trans Kq60 (allS (Or.inr B1) (allS (Or.inr Bf9) all0))
  refine own_tr st60 ?_
  show own_Go p e below T60 (mkF m 31 #[.val (.ref ob)] [(.ref b1)]) _
  obtain ⟨Bz4, hB4_⟩ : ∃ b : List Value, b = (Bz3) ++ [(.int 93), (.int 58), (.int 32)] := ⟨_, rfl⟩
  obtain ⟨Rz4, hR4_⟩ : ∃ b : List Value, b = List.drop ([(.int 93), (.int 58), (.int 32)] : List Value).length (Rz3) := ⟨_, rfl⟩
  obtain ⟨Cz4, hC4_⟩ : ∃ c : Int32, c = Cz3 + (3 : Int32) := ⟨_, rfl⟩
  rw [← hB4_, ← hR4_] at q60_4
  rw [← hC4_] at q60_3
  have hb4 : Cz4.toInt = (Bz4.length : Int) := by rw [hC4_, hB4_, List.length_append]; exact own_addI hb3 rfl (by omega)
  refine own_st (fun t_ k_ => XS.aloadN X60.here hx rfl (hb hby d11_31) rfl rfl k_) ?_
  show own_Go p e below T60 (mkF m 32 #[.val (.ref ob)] [(.ref ob), (.ref b1)]) _
  have f64 := ((((((((pF_message_ob.ext E1).keep Kq6 (ninS (Nat.ne_of_lt (Nat.lt_of_lt_of_le pE_ob.lt (Nat.le_of_eq g1.symm))) nin0)).keep Kq18 (ninS (Nat.ne_of_lt (Nat.lt_of_lt_of_le pE_ob.lt (Nat.le_of_eq g1.symm))) (ninS (Nat.ne_of_lt (Nat.lt_of_lt_of_le (pE_ob.ext E1).lt q6_5)) nin0))).ext E22).keep Kq33 (ninS (Nat.ne_of_lt (Nat.lt_of_lt_of_le pE_ob.lt (Nat.le_of_eq g1.symm))) (ninS (Nat.ne_of_lt (Nat.lt_of_lt_of_le (pE_ob.ext E1).lt q6_5)) nin0))).keep Kq45 (ninS (Nat.ne_of_lt (Nat.lt_of_lt_of_le pE_ob.lt (Nat.le_of_eq g1.symm))) (ninS (Nat.ne_of_lt (Nat.lt_of_lt_of_le (pE_ob.ext E1).lt q6_5)) nin0))).ext E49).keep Kq60 (ninS (Nat.ne_of_lt (Nat.lt_of_lt_of_le pE_ob.lt (Nat.le_of_eq g1.symm))) (ninS (Nat.ne_of_lt (Nat.lt_of_lt_of_le (pE_ob.ext E1).lt q6_5)) nin0)))
  obtain ⟨T65, X65, e65, st65⟩ := getF X60 hx hZ hown (host := "") (Or.inl (own_w hw 57 rfl)) Via.refl rfl f64 (g := (mkF m 32 #[.val (.ref ob)] [(.ref ob), (.ref b1)])) rfl rfl (hb hby d11_32)
  refine own_st st65 ?_
  show own_Go p e below T65 (mkF m 35 #[.val (.ref ob)] [(.ref x3), (.ref b1)]) _
  have ul4 : (((s3 : List Int32).map (fun c : Int32 => c.toInt8.toInt32)).map Value.int : List Value).length ≤ 2 := by simp only [List.length_map, List.length_cons, List.length_nil]; omega
  have rl4 : ((Bz4 : List Value).length + (Rz4 : List Value).length) = 16 ∧ (Bz4 : List Value).length ≤ 9 := by
    rw [hB4_, hR4_]; simp only [List.length_append, List.length_drop]; omega
  have f66 := (Nat.le_trans f53 Kq60.1)
  have f67 := ((((((((pE_x3.ext E1).keep Kq6).keep Kq18).ext E22).keep Kq33).keep Kq45).ext E49).keep Kq60)
  have f68 := ((((((((pF_value_x3.ext E1).keep Kq6 (ninS (Nat.ne_of_lt (Nat.lt_of_lt_of_le pE_x3.lt (Nat.le_of_eq g1.symm))) nin0)).keep Kq18 (ninS (Nat.ne_of_lt (Nat.lt_of_lt_of_le pE_x3.lt (Nat.le_of_eq g1.symm))) (ninS (Nat.ne_of_lt (Nat.lt_of_lt_of_le (pE_x3.ext E1).lt q6_5)) nin0))).ext E22).keep Kq33 (ninS (Nat.ne_of_lt (Nat.lt_of_lt_of_le pE_x3.lt (Nat.le_of_eq g1.symm))) (ninS (Nat.ne_of_lt (Nat.lt_of_lt_of_le (pE_x3.ext E1).lt q6_5)) nin0))).keep Kq45 (ninS (Nat.ne_of_lt (Nat.lt_of_lt_of_le pE_x3.lt (Nat.le_of_eq g1.symm))) (ninS (Nat.ne_of_lt (Nat.lt_of_lt_of_le (pE_x3.ext E1).lt q6_5)) nin0))).ext E49).keep Kq60 (ninS (Nat.ne_of_lt (Nat.lt_of_lt_of_le pE_x3.lt (Nat.le_of_eq g1.symm))) (ninS (Nat.ne_of_lt (Nat.lt_of_lt_of_le (pE_x3.ext E1).lt q6_5)) nin0)))
  have f69 := ((((((((pF_coder_x3.ext E1).keep Kq6 (ninS (Nat.ne_of_lt (Nat.lt_of_lt_of_le pE_x3.lt (Nat.le_of_eq g1.symm))) nin0)).keep Kq18 (ninS (Nat.ne_of_lt (Nat.lt_of_lt_of_le pE_x3.lt (Nat.le_of_eq g1.symm))) (ninS (Nat.ne_of_lt (Nat.lt_of_lt_of_le (pE_x3.ext E1).lt q6_5)) nin0))).ext E22).keep Kq33 (ninS (Nat.ne_of_lt (Nat.lt_of_lt_of_le pE_x3.lt (Nat.le_of_eq g1.symm))) (ninS (Nat.ne_of_lt (Nat.lt_of_lt_of_le (pE_x3.ext E1).lt q6_5)) nin0))).keep Kq45 (ninS (Nat.ne_of_lt (Nat.lt_of_lt_of_le pE_x3.lt (Nat.le_of_eq g1.symm))) (ninS (Nat.ne_of_lt (Nat.lt_of_lt_of_le (pE_x3.ext E1).lt q6_5)) nin0))).ext E49).keep Kq60 (ninS (Nat.ne_of_lt (Nat.lt_of_lt_of_le pE_x3.lt (Nat.le_of_eq g1.symm))) (ninS (Nat.ne_of_lt (Nat.lt_of_lt_of_le (pE_x3.ext E1).lt q6_5)) nin0)))
  have f70 := ((((((((pV_t3_.ext E1).keep Kq6 (ninS (Nat.ne_of_lt (Nat.lt_of_lt_of_le pV_t3_.lt (Nat.le_of_eq g1.symm))) nin0)).keep Kq18 (ninS (Nat.ne_of_lt (Nat.lt_of_lt_of_le pV_t3_.lt (Nat.le_of_eq g1.symm))) (ninS (Nat.ne_of_lt (Nat.lt_of_lt_of_le (pV_t3_.ext E1).lt q6_5)) nin0))).ext E22).keep Kq33 (ninS (Nat.ne_of_lt (Nat.lt_of_lt_of_le pV_t3_.lt (Nat.le_of_eq g1.symm))) (ninS (Nat.ne_of_lt (Nat.lt_of_lt_of_le (pV_t3_.ext E1).lt q6_5)) nin0))).keep Kq45 (ninS (Nat.ne_of_lt (Nat.lt_of_lt_of_le pV_t3_.lt (Nat.le_of_eq g1.symm))) (ninS (Nat.ne_of_lt (Nat.lt_of_lt_of_le (pV_t3_.ext E1).lt q6_5)) nin0))).ext E49).keep Kq60 (ninS (Nat.ne_of_lt (Nat.lt_of_lt_of_le pV_t3_.lt (Nat.le_of_eq g1.symm))) (ninS (Nat.ne_of_lt (Nat.lt_of_lt_of_le (pV_t3_.ext E1).lt q6_5)) nin0)))
  have f71 := (f59.keep Kq60 (allS G1 (allS q6_6 all0)))
  obtain ⟨cq72, kq72, qa72, qb72, qc72⟩ := isOf hZ e65 q60_0
  obtain ⟨_, _, ⟨T72, L72, k72, n72⟩, -, X72, ⟨Lc72, hQ72, l72, y72, z72⟩, st72⟩ := X65.virtualBack hx (y := (⟨"java/lang/StringBuilder", "append", "(Ljava/lang/String;)Ljava/lang/StringBuilder;"⟩ : MethodName)) (z := (⟨"java/lang/StringBuilder", "append", "(Ljava/lang/String;)Ljava/lang/StringBuilder;"⟩ : MethodName)) hown (mvT hZ (own_w hw 82 rfl)) (mvT hZ (own_w hw 83 rfl)) (notFace_of_selects (args := #[]) (mvT hZ (own_w hw 85 rfl))) (mvT hZ (own_w hw 85 rfl)) (mvT hZ (own_w hw 84 rfl)) (by decide) (backOf (W := 0) (rmSbA l Z a0 hw [] b1 va_6 kva_6 ((16 : Int32)) Cz4 Bz4 Rz4 x3 t3_ k3_ ((Int32.ofNat (s3 : List Int32).length)) (((s3 : List Int32).map (fun c : Int32 => c.toInt8.toInt32)).map Value.int) zc T60.heap n0 f66 q60_0 q60_1 q60_2 q60_3 q60_4 f67 f68 f69 f70 hb4 (by rw [rl4.1]; rfl) n3_ (by omega) (by omega) G1 q6_6 pS_COMPACT_STRINGS pP5 f71) hZ (own_w hw 86 rfl) (own_w hw 66 rfl) (by decide) (by decide)) qa72 qc72 (g := (mkF m 35 #[.val (.ref ob)] [(.ref x3), (.ref b1)])) rfl (by rw [hml]; rfl) (Steps.refl _) (argsL := [(.ref x3)]) (rest := []) (lenOf pd__Ljava_lang_String__Ljava_lang_StringBuilder_ rfl) rfl (by show 2 * 0 + _ ≤ _; exact Nat.le_of_eq rfl) (hb hby d11_35) (fun _ _ => ⟨rfl, e65, (by decide : 6 + 0 ≤ _), (by decide : 48 + 0 ≤ _)⟩)
  dsimp only [Pt.U, Pt.locs, Pt.cells, Pt.slots] at X72 l72 y72 z72 st72 hQ72
  try dsimp only [Nat.reduceAdd] at y72 z72
  rw [l72, y72, z72] at X72
  obtain ⟨rfl, Nq72, Kq72, q72_0, q72_1, q72_2, q72_3, q72_4⟩ := hQ72
  have N72 := Fr.app N60 Nq72
  have f74 := (Safe.keep Kq60 Sa61 CH51 f62)
  have Sa73 : ∀ y ∈ [b1, va_6], Safe Z own_EL T49.vm T60.heap y := (sfS (Safe.exa hZ.alike q60_0 (by decide) (by decide)) (sfS f74 sf0))
  have CH73 := CH61.keep Kq72 Sa73
  have CR73 := CHr.trans CR61 (CHr.keep Kq72 Sa73 CH61)
  have K75 : Keep h0 T72.heap [] := K63.trans Kq72 (allS (Or.inr B1) (allS (Or.inr Bf9) all0))
  refine own_tr st72 ?_
  show own_Go p e below T72 (mkF m 38 #[.val (.ref ob)] [(.ref b1)]) _
  obtain ⟨Bz5, hB5_⟩ : ∃ b : List Value, b = (Bz4) ++ ((s3 : List Int32).map (fun c : Int32 => c.toInt8.toInt32)).map Value.int := ⟨_, rfl⟩
  obtain ⟨Rz5, hR5_⟩ : ∃ b : List Value, b = List.drop (((s3 : List Int32).map (fun c : Int32 => c.toInt8.toInt32)).map Value.int : List Value).length (Rz4) := ⟨_, rfl⟩
  obtain ⟨Cz5, hC5_⟩ : ∃ c : Int32, c = Cz4 + (Int32.ofNat (s3 : List Int32).length) := ⟨_, rfl⟩
  rw [← hB5_, ← hR5_] at q72_4
  rw [← hC5_] at q72_3
  have hb5 : Cz5.toInt = (Bz5.length : Int) := by rw [hC5_, hB5_, List.length_append]; exact own_addI hb4 n3_ (by omega)
  have rl5 : (Bz5.length + Rz5.length) = 16 ∧ Bz5.length ≤ 11 := by
    rw [hB5_, hR5_]; simp only [List.length_append, List.length_drop]; omega
  have f76 := (Nat.le_trans f66 Kq72.1)
  have f77 := (f71.keep Kq72 (allS G1 (allS q6_6 all0)))
  obtain ⟨cq78, kq78, qa78, qb78, qc78⟩ := isOf hZ rfl q72_0
  obtain ⟨_, _, ⟨T78, L78, k78, n78⟩, -, X78, ⟨Lc78, hQ78, l78, y78, z78⟩, st78⟩ := X72.virtualBack hx (y := (⟨"java/lang/StringBuilder", "toString", "()Ljava/lang/String;"⟩ : MethodName)) (z := (⟨"java/lang/StringBuilder", "toString", "()Ljava/lang/String;"⟩ : MethodName)) hown (mvT hZ (own_w hw 131 rfl)) (mvT hZ (own_w hw 132 rfl)) (notFace_of_selects (args := #[]) (mvT hZ (own_w hw 134 rfl))) (mvT hZ (own_w hw 134 rfl)) (mvT hZ (own_w hw 133 rfl)) (by decide) (backOf (W := 0) (rmTs l Z a0 hw [] b1 va_6 kva_6 ((16 : Int32)) Cz5 Bz5 Rz5 zc T72.heap n0 f76 q72_0 q72_1 q72_2 q72_3 q72_4 hb5 (by rw [rl5.1]; rfl) (by omega) (by omega) pS_COMPACT_STRINGS pP5 f77) hZ (own_w hw 135 rfl) (own_w hw 66 rfl) (by decide) (by decide)) qa78 qc78 (g := (mkF m 38 #[.val (.ref ob)] [(.ref b1)])) rfl (by rw [hml]; rfl) (Steps.refl _) (argsL := []) (rest := []) (lenOf pd___Ljava_lang_String_ rfl) rfl (by show 2 * 0 + _ ≤ _; exact Nat.le_of_eq rfl) (hb hby d11_38) (fun _ _ => ⟨rfl, rfl, (by decide : 6 + 2 ≤ _), (by decide : 48 + 20 ≤ _)⟩)
  dsimp only [Pt.U, Pt.locs, Pt.cells, Pt.slots] at X78 l78 y78 z78 st78 hQ78
  try dsimp only [Nat.reduceAdd] at y78 z78
  rw [l78, y78, z78] at X78
  obtain ⟨y_78, b_78, kb_78, rfl, Nq78, Kq78, q78_0, q78_1, q78_2, q78_3, q78_4, q78_5⟩ := hQ78
  have N78 := Fr.app N72 Nq78
  have CH79 := CH73.keep Kq78 sf0
  have CR79 := CHr.trans CR73 (CHr.keep Kq78 sf0 CH73)
  have K80 : Keep h0 T78.heap [] := K75.trans Kq78 all0
  have Bf81 : h0.size ≤ b_78 := Nat.le_trans K75.1 q78_4
  refine own_tr st78 ?_
  show own_Go p e below T78 (mkF m 41 #[.val (.ref ob)] [(.ref y_78)]) _
  have eL : Bz5 = (((own_all s1 s2 s3) : List Int32).map (fun c : Int32 => c.toInt8.toInt32)).map Value.int := by rw [hB5_, hB4_, hB3_, hB2_, hB1_]; unfold own_all; simp [List.map_append]
  have eZ : Cz5 = (Int32.ofNat ((own_all s1 s2 s3) : List Int32).length) := own_eqOf (by rw [hb5, eL, List.length_map, List.length_map]) (by rw [own_len]; omega)
  have Vy := q78_3
  rw [eL, eZ] at Vy
  have f82 := (Nat.le_trans (Nat.le_trans (Nat.le_trans hk49 Kq60.1) Kq72.1) Kq78.1)
  obtain ⟨fs, hr, hrun, hended, hRW⟩ := X78.leaveW hS f82 (v := some (.ref y_78)) (fun h => by rw [Bd.returns] at h; cases h)
  have hCend : CHr Z own_EL s.vm s.heap T78.vm T78.heap := by
    rw [hh]
    exact CHr.trans CR79 (CHv.at X78 hZ hEL CH79)
  refine own_fin (own_retR X78 hx rfl Bd.returns rfl (hb hby d11_41) hr) ⟨hrun, hended, _, _, rfl, ?_, hCend, hRW.1, hRW.2.1, hRW.2.2.1, hRW.2.2.2.mono (by decide) (by decide)⟩
  show Q_rmTo Z ob x1 t1_ k1_ s1 x2 t2_ k2_ s2 x3 t3_ k3_ s3 zc h0 n0 _ T78.heap _
  exact ⟨y_78, b_78, kb_78, rfl, N78, K80, q78_0, q78_1, q78_2, Vy⟩
theorem d32_0 : decode method_3_code 0 = .ok (.iload_n 3, 1) := by decide +kernel
theorem d32_1 : decode method_3_code 1 = .ok (.iload_n 2, 1) := by decide +kernel
theorem d32_2 : decode method_3_code 2 = .ok (.if_icmp .ge 14, 3) := by decide +kernel
theorem d32_5 : decode method_3_code 5 = .ok (.aload_n 0, 1) := by decide +kernel
theorem d32_6 : decode method_3_code 6 = .ok (.iload_n 3, 1) := by decide +kernel
theorem d32_7 : decode method_3_code 7 = .ok (.invokevirtual 12, 3) := by decide +kernel
theorem d32_10 : decode method_3_code 10 = .ok (.aload_n 1, 1) := by decide +kernel
theorem d32_11 : decode method_3_code 11 = .ok (.iload_n 3, 1) := by decide +kernel
theorem d32_12 : decode method_3_code 12 = .ok (.caload, 1) := by decide +kernel
theorem d32_13 : decode method_3_code 13 = .ok (.if_icmp .ne 7, 3) := by decide +kernel
theorem d32_16 : decode method_3_code 16 = .ok (.iconst 1, 1) := by decide +kernel
theorem d32_17 : decode method_3_code 17 = .ok (.goto 4, 3) := by decide +kernel
theorem d32_21 : decode method_3_code 21 = .ok (.ireturn, 1) := by decide +kernel
theorem pn_32 : plainName "com/example/beanharness/beanharness/FindingToStringPinLaw" = true := by first | (simp [plainName, overriddenIn]; done) | decide +kernel
theorem pd__I_C : parseMethodDescriptor "(I)C" = some ⟨[.int], some .char⟩ := by decide +kernel
theorem ef_rmAt (m : MethodId) (x0 : Addr) (x1 : Addr) (x2 : Int32) (x3 : Int32) : entryFrame m #[(.ref x0), (.ref x1), (.int x2), (.int x3)] 4 = mkF m 0 #[.val (.ref x0), .val (.ref x1), .val (.int x2), .val (.int x3)] [] := by first | (simp [entryFrame, mkF, argsToLocals, Value.category]; done) | rfl
def Q_rmAt (Z : State) (y : Addr) (ty : Addr) (ky : ClassId) (e1_ : Addr) (ke : ClassId) (nn : Int32) (ii : Int32) (jj : Nat) (al : List Int32) (pd : List Value) (zc : Int32) (fm : Value) (h0 : Heap) (n0 : Nat) (v : Option Value) (h : Heap) (L : List Loc) : Prop := v = some (.int (1 : Int32)) ∧ Fr n0 L ∧ h = h0
set_option maxRecDepth 65536 in
set_option maxHeartbeats 40000000 in
theorem rmAt (l : Launch) (Z : State) (a0 : Array Value) (hw : ∀ d ∈ tables_1, d.before a0 Z = true) (ws : List Jvm.Cond) (y : Addr) (ty : Addr) (ky : ClassId) (e1_ : Addr) (ke : ClassId) (nn : Int32) (ii : Int32) (jj : Nat) (al : List Int32) (pd : List Value) (zc : Int32) (fm : Value) (h0 : Heap) (n0 : Nat) (Z0 : n0 ≤ h0.size) (pE_y : Exa Z h0 y "java/lang/String") (pF_value_y : Fld Z h0 y "java/lang/String" "value" "[B" (.ref ty)) (pF_coder_y : Fld Z h0 y "java/lang/String" "coder" "B" (.int (0 : Int32))) (pV_ty : Arv Z h0 ty ky .byte (Int32.ofNat (al : List Int32).length) (((al : List Int32).map (fun c : Int32 => c.toInt8.toInt32)).map Value.int) (.int 0)) (pV_e1_ : Arv Z h0 e1_ ke .char (11 : Int32) (al.map Value.int ++ pd) (.int (0 : Int32))) (hp : (own_P al)) (hl : (al.length ≤ 11)) (hn : (nn = (Int32.ofNat (al : List Int32).length))) (hi : (ii.toInt = (jj : Int))) (pS_COMPACT_STRINGS : Sta Z Z.heap "java/lang/String" "COMPACT_STRINGS" "Z" (.int zc)) (pP5 : (¬ (zc = (0 : Int32)))) (pS_SIOOBE_FORMATTER : Sta Z Z.heap "jdk/internal/util/Preconditions" "SIOOBE_FORMATTER" "Ljava/util/function/BiFunction;" fm) (rfm : (fm.isRef = true)) (pO : Old Z n0 h0) :
    MetFree l (⟨"com/example/beanharness/beanharness/FindingToStringPinLaw", "at", "(Ljava/lang/String;[CII)Z"⟩ : MethodName) (head1 (Jvm.Cond.code (⟨"com/example/beanharness/beanharness/FindingToStringPinLaw", "at", "(Ljava/lang/String;[CII)Z"⟩ : MethodName) method_3_code 4 (some .boolean) :: ws) ({ frames := 4, cells := 0, slots := 0, locals := 53 } : Room)) (fun a U => a = #[(.ref y), (.ref e1_), (.int nn), (.int ii)] ∧ Z.Warmed39 U.vm ∧ U.heap = h0) (fun _ _ _ _ _ => True) (fun _ U o U' => ∃ v L, o = .returned v ∧ Q_rmAt Z y ty ky e1_ ke nn ii jj al pd zc fm h0 n0 v U'.heap L ∧ FrameEnd U o U' L ({ frames := 4, cells := 0, slots := 0, locals := 53 } : Room).cells ({ frames := 4, cells := 0, slots := 0, locals := 53 } : Room).slots) := by
  refine MetFree.of_bodySF (plainFor_of_name pn_32) hisR ?_
  intro p e s m args below meth c s₁ Bd hml0 hP hK
  obtain ⟨rfl, hZ, hh⟩ := hP
  have hx := Bd.exec
  have hby := Bd.bytes
  have hml : c.maxLocals = 4 := hml0
  have hown : s.vm.findClass "com/example/beanharness/beanharness/FindingToStringPinLaw" = some m.cls := findClass_of_methodNamed Bd.named
  have hnm := (name_of_methodNamed Bd.named Bd.method).1
  have X0 : Stand p l e ({ frames := 4, cells := 0, slots := 0, locals := 53 } : Room) s m #[(.ref y), (.ref e1_), (.int nn), (.int ii)] below meth c s₁ [] 0 0 := Stand.of_body Bd
  have e0 : s₁.heap = h0 := by rw [← hh, Bd.state]; rfl
  have N0 := Fr.nil n0
  refine own_enter (ef_rmAt m y e1_ nn ii) ?_
  have hch : ∀ d ∈ StrChars.Road.wordsChN, d.before a0 Z = true := fun d hd => hw d ((by decide +kernel : ∀ d ∈ StrChars.Road.wordsChN, d ∈ tables_1) d hd)
  have oA : (Int32.ofNat (al : List Int32).length).toInt = (al.length : Int) := own_ofNat (by omega)
  have q4A : al.length ≤ 4000 := by omega
  refine own_st (fun t_ k_ => XS.iloadN X0.here hx rfl (hb hby d32_0) rfl (XS.iloadN X0.here hx rfl (hb hby d32_1) rfl k_)) ?_
  show own_Go p e below s₁ (mkF m 2 #[.val (.ref y), .val (.ref e1_), .val (.int nn), .val (.int ii)] [(.int nn), (.int ii)]) _
  by_cases c2 : ii < nn
  · skip
    refine own_st (fun t_ k_ => XS.icmpNo X0.here hx rfl (hb hby d32_2) rfl (tlt c2).2.1 k_) ?_
    show own_Go p e below s₁ (mkF m 5 #[.val (.ref y), .val (.ref e1_), .val (.int nn), .val (.int ii)] []) _
    have cj : jj < al.length := by rw [hn, Int32.lt_iff_toInt_lt, oA] at c2; omega
    refine own_st (fun t_ k_ => XS.aloadN X0.here hx rfl (hb hby d32_5) rfl rfl (XS.iloadN X0.here hx rfl (hb hby d32_6) rfl k_)) ?_
    show own_Go p e below s₁ (mkF m 7 #[.val (.ref y), .val (.ref e1_), .val (.int nn), .val (.int ii)] [(.int ii), (.ref y)]) _
    have hcd1 : StrChars.Road.CodA (al : List Int32) 0 (Int32.ofNat (al : List Int32).length) (((al : List Int32).map (fun c : Int32 => c.toInt8.toInt32)).map Value.int) := StrChars.Road.codOf rfl (fun x hx => (hp x hx).2)
    have hbd1 : ∀ x ∈ (al : List Int32), ¬ x < 0 ∧ ¬ (65535 : Int32) < x := own_up _ hp
    obtain ⟨cq2, kq2, qa2, qb2, qc2⟩ := isOf hZ e0 pE_y
    obtain ⟨_, _, ⟨T2, L2, k2, n2⟩, -, X2, ⟨Lc2, hQ2, l2, y2, z2⟩, st2⟩ := X0.virtualBack hx (y := (⟨"java/lang/String", "charAt", "(I)C"⟩ : MethodName)) (z := (⟨"java/lang/String", "charAt", "(I)C"⟩ : MethodName)) hown (mvT hZ (own_w hw 177 rfl)) (mvT hZ (own_w hw 178 rfl)) (notFace_of_selects (args := #[]) (mvT hZ (own_w hw 180 rfl))) (mvT hZ (own_w hw 180 rfl)) (mvT hZ (own_w hw 179 rfl)) (by decide) (StrChars.Road.chN (W := 0) hZ hch (kI := 4) (own_w hw 10 rfl) pE_y pF_value_y pF_coder_y pV_ty hcd1 hbd1 (pS_COMPACT_STRINGS.ext pO.2) pP5 (pS_SIOOBE_FORMATTER.ext pO.2) rfm q4A (i := jj) cj (j := ii) (own_eqOf hi (by omega)) (by decide) (by decide)) qa2 qc2 (g := (mkF m 7 #[.val (.ref y), .val (.ref e1_), .val (.int nn), .val (.int ii)] [(.int ii), (.ref y)])) rfl (by rw [hml]; rfl) (Steps.refl _) (argsL := [(.int ii)]) (rest := []) (lenOf pd__I_C rfl) rfl (by show 2 * 0 + _ ≤ _; exact Nat.le_of_eq rfl) (hb hby d32_7) (fun _ _ => ⟨rfl, e0, (by decide : 0 + 0 ≤ _), (by decide : 0 + 0 ≤ _)⟩)
    dsimp only [Pt.U, Pt.locs, Pt.cells, Pt.slots] at X2 l2 y2 z2 st2 hQ2
    try dsimp only [Nat.reduceAdd] at y2 z2
    rw [l2, y2, z2] at X2
    obtain ⟨rfl, rfl, eH2⟩ := hQ2
    have N2 := Fr.app N0 (Fr.nil n0)
    refine own_tr st2 ?_
    show own_Go p e below T2 (mkF m 10 #[.val (.ref y), .val (.ref e1_), .val (.int nn), .val (.int ii)] [(.int (al.getD jj 0))]) _
    refine own_st (fun t_ k_ => XS.aloadN X2.here hx rfl (hb hby d32_10) rfl rfl (XS.iloadN X2.here hx rfl (hb hby d32_11) rfl k_)) ?_
    show own_Go p e below T2 (mkF m 12 #[.val (.ref y), .val (.ref e1_), .val (.int nn), .val (.int ii)] [(.int ii), (.ref e1_), (.int (al.getD jj 0))]) _
    have hin : ¬ ii < 0 ∧ ii < (11 : Int32) := ⟨own_nonneg hi, by rw [Int32.lt_iff_toInt_lt, show (11 : Int32).toInt = 11 from rfl]; omega⟩
    obtain ⟨cl3, Ar3, q3, Sz3, Nn3, Hh3, Gg3⟩ := id pV_e1_
    have hin3 : ¬ (ii < 0 ∨ cl3.slots.size ≤ (ii).toNatClampNeg) := inb_of Sz3 hin
    have hat3 : cl3.slots[(ii).toNatClampNeg]? = some (.int (al.getD jj 0)) := Has.at Hh3 hin3 (by rw [own_clamp hi]; exact own_getV cj)
    refine own_st (fun t_ k_ => X2.caload hx (j := ii) (v := (.int (al.getD jj 0))) (by rw [eH2]; exact Ar3.1) (State.isArrayOf_alike hZ.alike Ar3.2.1) Ar3.2.2 hin3 hat3 (g := (mkF m 12 #[.val (.ref y), .val (.ref e1_), .val (.int nn), .val (.int ii)] [(.int ii), (.ref e1_), (.int (al.getD jj 0))])) rfl rfl (hb hby d32_12) _ (XS.icmpNo X2.here hx rfl (hb hby d32_13) rfl (teq rfl).2 (XS.iconst X2.here hx rfl (hb hby d32_16) (XS.goto X2.here hx rfl (pc0 := 17) (pc' := 21) rfl (hb hby d32_17) (by decide) (by decide) k_)))) ?_
    show own_Go p e below T2 (mkF m 21 #[.val (.ref y), .val (.ref e1_), .val (.int nn), .val (.int ii)] [(.int (1 : Int32))]) _
    obtain ⟨fs, hr, hrun, hended, hW, hsame⟩ := X2.leave (v := some (.int (1 : Int32))) (fun h => by rw [Bd.returns] at h; cases h)
    refine own_fin (retN X2 hx (t := .boolean) Bd.returns (by simp) (hb hby d32_21) hr) ⟨hrun, hended, _, _, rfl, ?_, ⟨_, rfl⟩, hW, hsame.mono (by decide) (by decide)⟩
    show Q_rmAt Z y ty ky e1_ ke nn ii jj al pd zc fm h0 n0 _ T2.heap _
    rw [eH2]
    exact ⟨rfl, N2, rfl⟩
  · skip
    refine own_st (fun t_ k_ => XS.icmpYes X0.here hx rfl (pc0 := 2) (pc' := 16) rfl (hb hby d32_2) rfl (flt c2).2.1 (by decide) (by decide) (XS.iconst X0.here hx rfl (hb hby d32_16) (XS.goto X0.here hx rfl (pc0 := 17) (pc' := 21) rfl (hb hby d32_17) (by decide) (by decide) k_))) ?_
    show own_Go p e below s₁ (mkF m 21 #[.val (.ref y), .val (.ref e1_), .val (.int nn), .val (.int ii)] [(.int (1 : Int32))]) _
    obtain ⟨fs, hr, hrun, hended, hW, hsame⟩ := X0.leave (v := some (.int (1 : Int32))) (fun h => by rw [Bd.returns] at h; cases h)
    refine own_fin (retN X0 hx (t := .boolean) Bd.returns (by simp) (hb hby d32_21) hr) ⟨hrun, hended, _, _, rfl, ?_, ⟨_, rfl⟩, hW, hsame.mono (by decide) (by decide)⟩
    show Q_rmAt Z y ty ky e1_ ke nn ii jj al pd zc fm h0 n0 _ s₁.heap _
    rw [e0]
    exact ⟨rfl, N0, rfl⟩
theorem pn_0 : plainName "com/example/beanharness/beanharness/FindingToStringPinLaw" = true := by first | (simp [plainName, overriddenIn]; done) | decide +kernel
theorem pd__II_Ljava_lang_String_ : parseMethodDescriptor "(II)Ljava/lang/String;" = some ⟨[.int, .int], some (.object "java/lang/String")⟩ := by decide +kernel
theorem pd__Ljava_lang_String_Ljava_lang_String_Ljava_lang_String__V : parseMethodDescriptor "(Ljava/lang/String;Ljava/lang/String;Ljava/lang/String;)V" = some ⟨[(.object "java/lang/String"), (.object "java/lang/String"), (.object "java/lang/String")], none⟩ := by decide +kernel
theorem pd__Ljava_lang_String__CII_Z : parseMethodDescriptor "(Ljava/lang/String;[CII)Z" = some ⟨[(.object "java/lang/String"), (.array .char), .int, .int], some .boolean⟩ := by decide +kernel
theorem ef_rmLaw (m : MethodId) (x0 : Int32) (x1 : Int32) (x2 : Int32) (x3 : Int32) : entryFrame m #[(.int x0), (.int x1), (.int x2), (.int x3)] maxLocals = mkF m 0 #[.val (.int x0), .val (.int x1), .val (.int x2), .val (.int x3), .unset, .unset, .unset, .unset, .unset, .unset, .unset, .unset, .unset] [] := by first | (simp [entryFrame, mkF, argsToLocals, Value.category, maxLocals]; done) | rfl
def Q_rmLaw (Z : State) (p0 : Int32) (p1 : Int32) (p2 : Int32) (p3 : Int32) (zc : Int32) (fm : Value) (h0 : Heap) (n0 : Nat) (v : Option Value) (h : Heap) (L : List Loc) : Prop := v = some (.int (1 : Int32)) ∧ Fr n0 L ∧ Keep h0 h []
set_option maxRecDepth 65536 in
set_option maxHeartbeats 40000000 in
theorem rmLaw (l : Launch) (Z : State) (a0 : Array Value) (hw : ∀ d ∈ tables_1, d.before a0 Z = true) (ws : List Jvm.Cond) (p0 : Int32) (p1 : Int32) (p2 : Int32) (p3 : Int32) (zc : Int32) (fm : Value) (h0 : Heap) (n0 : Nat) (Z0 : n0 ≤ h0.size) (pS_COMPACT_STRINGS : Sta Z Z.heap "java/lang/String" "COMPACT_STRINGS" "Z" (.int zc)) (pP5 : (¬ (zc = (0 : Int32)))) (pS_SIOOBE_FORMATTER : Sta Z Z.heap "jdk/internal/util/Preconditions" "SIOOBE_FORMATTER" "Ljava/util/function/BiFunction;" fm) (rfm : (fm.isRef = true)) (pO : Old Z n0 h0) :
    MetFree l x (head1 (Jvm.Cond.code x code maxLocals ret :: ws) room_1) (fun a U => a = #[(.int p0), (.int p1), (.int p2), (.int p3)] ∧ Z.Warmed39 U.vm ∧ U.heap = h0 ∧ CHv Z own_EL U.vm h0) (fun _ _ _ _ _ => True) (fun _ U o U' => ∃ v L, o = .returned v ∧ Q_rmLaw Z p0 p1 p2 p3 zc fm h0 n0 v U'.heap L ∧ CHr Z own_EL U.vm U.heap U'.vm U'.heap ∧ ReturnedEndW U o U' L 48 3328) := by
  refine MetFree.of_bodySF (plainFor_of_name pn_0) hisR ?_
  intro p e s m args below meth c s₁ Bd hml0 hP hK
  obtain ⟨rfl, hZ, hh, hCH⟩ := hP
  have hx := Bd.exec
  have hby := Bd.bytes
  have hml : c.maxLocals = 13 := hml0
  have hown : s.vm.findClass "com/example/beanharness/beanharness/FindingToStringPinLaw" = some m.cls := findClass_of_methodNamed Bd.named
  have hnm := (name_of_methodNamed Bd.named Bd.method).1
  have X0 : Stand p l e room_1 (s.setVm s.vm) m #[(.int p0), (.int p1), (.int p2), (.int p3)] below meth c s₁ [] 0 0 := Stand.of_body Bd
  have e0 : s₁.heap = h0 := by rw [← hh, Bd.state]; rfl
  have N0 := Fr.nil n0
  have hEL := own_EW hw
  have hCR := CHr.refl hCH
  have hS : s.Since s.vm h0.size := (State.WarmedH.refl s).since _
  have hK0 : h0.size ≤ h0.size := Nat.le_refl _
  refine own_enter (ef_rmLaw m p0 p1 p2 p3) ?_
  have hln : ∀ d ∈ StrChars.Road.wordsLen, d.before a0 Z = true := fun d hd => hw d ((by decide +kernel : ∀ d ∈ StrChars.Road.wordsLen, d ∈ tables_1) d hd)
  refine own_st (fun t_ k_ => XS.iloadN X0.here hx rfl (hb hby at_0) rfl (XS.iconst X0.here hx rfl (hb hby at_1) (XS.iand X0.here hx rfl (hb hby at_2) rfl (XS.iconst X0.here hx rfl (hb hby at_3) k_)))) ?_
  show own_Go p e below s₁ (mkF m 4 #[.val (.int p0), .val (.int p1), .val (.int p2), .val (.int p3), .unset, .unset, .unset, .unset, .unset, .unset, .unset, .unset, .unset] [(.int (2 : Int32)), (.int (p3 &&& (3 : Int32)))]) _
  obtain ⟨_, _, ⟨T1, L1, k1, n1⟩, -, X1, ⟨Lc1, hQ1, l1, y1, z1⟩, st1⟩ := Jvm.LawKit.callS X0 hx (y := (⟨"java/lang/Math", "min", "(II)I"⟩ : MethodName)) hown (mvT hZ (own_w hw 0 rfl)) (mvT hZ (own_w hw 1 rfl)) (mvT hZ (own_w hw 2 rfl)) (mvT hZ (own_w hw 3 rfl)) (by decide) (backOf (W := 0) (rmMn l Z a0 hw [] ((p3 &&& (3 : Int32))) h0 n0 Z0 (own_and3 _)) hZ (own_w hw 3 rfl) (own_w hw 2 rfl) (by decide) (by decide)) (g := (mkF m 4 #[.val (.int p0), .val (.int p1), .val (.int p2), .val (.int p3), .unset, .unset, .unset, .unset, .unset, .unset, .unset, .unset, .unset] [(.int (2 : Int32)), (.int (p3 &&& (3 : Int32)))])) rfl (by rw [hml]; rfl) (argsL := [(.int (p3 &&& (3 : Int32))), (.int (2 : Int32))]) (rest := []) (lenOf pd__II_I rfl) rfl (by show 2 * 0 + _ ≤ _; exact Nat.le_of_eq rfl) (hb hby at_4) (fun _ _ => ⟨rfl, e0, (by decide : 0 + 0 ≤ _), (by decide : 0 + 0 ≤ _)⟩)
  dsimp only [Pt.U, Pt.locs, Pt.cells, Pt.slots] at X1 l1 y1 z1 st1 hQ1
  try dsimp only [Nat.reduceAdd] at y1 z1
  rw [l1, y1, z1] at X1
  obtain ⟨r_1, rfl, Nq1, eH1, q1_0⟩ := hQ1
  have N1 := Fr.app N0 Nq1
  refine own_st st1 ?_
  show own_Go p e below T1 (mkF m 7 #[.val (.int p0), .val (.int p1), .val (.int p2), .val (.int p3), .unset, .unset, .unset, .unset, .unset, .unset, .unset, .unset, .unset] [(.int r_1)]) _
  obtain ⟨cs0, hM0⟩ := own_mkE q1_0 p0
  refine own_st (fun t_ k_ => XS.istore X1.here hx rfl (hb hby at_7) rfl (l' := #[.val (.int p0), .val (.int p1), .val (.int p2), .val (.int p3), .val (.int r_1), .unset, .unset, .unset, .unset, .unset, .unset, .unset, .unset]) rfl (XS.iloadN X1.here hx rfl (hb hby at_9) rfl (XS.iconst X1.here hx rfl (hb hby at_10) (XS.iushr X1.here hx rfl (hb hby at_11) rfl (XS.iconst X1.here hx rfl (hb hby at_12) (XS.iand X1.here hx rfl (hb hby at_13) rfl (XS.iconst X1.here hx rfl (hb hby at_14) k_))))))) ?_
  show own_Go p e below T1 (mkF m 15 #[.val (.int p0), .val (.int p1), .val (.int p2), .val (.int p3), .val (.int r_1), .unset, .unset, .unset, .unset, .unset, .unset, .unset, .unset] [(.int (2 : Int32)), (.int (((p3.toUInt32 >>> ((2 : Int32) &&& 31).toUInt32).toInt32) &&& (3 : Int32)))]) _
  obtain ⟨_, _, ⟨T2, L2, k2, n2⟩, -, X2, ⟨Lc2, hQ2, l2, y2, z2⟩, st2⟩ := Jvm.LawKit.callS X1 hx (y := (⟨"java/lang/Math", "min", "(II)I"⟩ : MethodName)) hown (mvT hZ (own_w hw 0 rfl)) (mvT hZ (own_w hw 1 rfl)) (mvT hZ (own_w hw 2 rfl)) (mvT hZ (own_w hw 3 rfl)) (by decide) (backOf (W := 0) (rmMn l Z a0 hw [] ((((p3.toUInt32 >>> ((2 : Int32) &&& 31).toUInt32).toInt32) &&& (3 : Int32))) h0 n0 Z0 (own_and3 _)) hZ (own_w hw 3 rfl) (own_w hw 2 rfl) (by decide) (by decide)) (g := (mkF m 15 #[.val (.int p0), .val (.int p1), .val (.int p2), .val (.int p3), .val (.int r_1), .unset, .unset, .unset, .unset, .unset, .unset, .unset, .unset] [(.int (2 : Int32)), (.int (((p3.toUInt32 >>> ((2 : Int32) &&& 31).toUInt32).toInt32) &&& (3 : Int32)))])) rfl (by rw [hml]; rfl) (argsL := [(.int (((p3.toUInt32 >>> ((2 : Int32) &&& 31).toUInt32).toInt32) &&& (3 : Int32))), (.int (2 : Int32))]) (rest := []) (lenOf pd__II_I rfl) rfl (by show 2 * 0 + _ ≤ _; exact Nat.le_of_eq rfl) (hb hby at_15) (fun _ _ => ⟨rfl, eH1, (by decide : 0 + 0 ≤ _), (by decide : 0 + 0 ≤ _)⟩)
  dsimp only [Pt.U, Pt.locs, Pt.cells, Pt.slots] at X2 l2 y2 z2 st2 hQ2
  try dsimp only [Nat.reduceAdd] at y2 z2
  rw [l2, y2, z2] at X2
  obtain ⟨r_2, rfl, Nq2, eH2, q2_0⟩ := hQ2
  have N2 := Fr.app N1 Nq2
  refine own_st st2 ?_
  show own_Go p e below T2 (mkF m 18 #[.val (.int p0), .val (.int p1), .val (.int p2), .val (.int p3), .val (.int r_1), .unset, .unset, .unset, .unset, .unset, .unset, .unset, .unset] [(.int r_2)]) _
  obtain ⟨cs1, hM1⟩ := own_mkE q2_0 p1
  refine own_st (fun t_ k_ => XS.istore X2.here hx rfl (hb hby at_18) rfl (l' := #[.val (.int p0), .val (.int p1), .val (.int p2), .val (.int p3), .val (.int r_1), .val (.int r_2), .unset, .unset, .unset, .unset, .unset, .unset, .unset]) rfl (XS.iloadN X2.here hx rfl (hb hby at_20) rfl (XS.iconst X2.here hx rfl (hb hby at_21) (XS.iushr X2.here hx rfl (hb hby at_22) rfl (XS.iconst X2.here hx rfl (hb hby at_23) (XS.iand X2.here hx rfl (hb hby at_24) rfl (XS.iconst X2.here hx rfl (hb hby at_25) k_))))))) ?_
  show own_Go p e below T2 (mkF m 26 #[.val (.int p0), .val (.int p1), .val (.int p2), .val (.int p3), .val (.int r_1), .val (.int r_2), .unset, .unset, .unset, .unset, .unset, .unset, .unset] [(.int (2 : Int32)), (.int (((p3.toUInt32 >>> ((4 : Int32) &&& 31).toUInt32).toInt32) &&& (3 : Int32)))]) _
  obtain ⟨_, _, ⟨T3, L3, k3, n3⟩, -, X3, ⟨Lc3, hQ3, l3, y3, z3⟩, st3⟩ := Jvm.LawKit.callS X2 hx (y := (⟨"java/lang/Math", "min", "(II)I"⟩ : MethodName)) hown (mvT hZ (own_w hw 0 rfl)) (mvT hZ (own_w hw 1 rfl)) (mvT hZ (own_w hw 2 rfl)) (mvT hZ (own_w hw 3 rfl)) (by decide) (backOf (W := 0) (rmMn l Z a0 hw [] ((((p3.toUInt32 >>> ((4 : Int32) &&& 31).toUInt32).toInt32) &&& (3 : Int32))) h0 n0 Z0 (own_and3 _)) hZ (own_w hw 3 rfl) (own_w hw 2 rfl) (by decide) (by decide)) (g := (mkF m 26 #[.val (.int p0), .val (.int p1), .val (.int p2), .val (.int p3), .val (.int r_1), .val (.int r_2), .unset, .unset, .unset, .unset, .unset, .unset, .unset] [(.int (2 : Int32)), (.int (((p3.toUInt32 >>> ((4 : Int32) &&& 31).toUInt32).toInt32) &&& (3 : Int32)))])) rfl (by rw [hml]; rfl) (argsL := [(.int (((p3.toUInt32 >>> ((4 : Int32) &&& 31).toUInt32).toInt32) &&& (3 : Int32))), (.int (2 : Int32))]) (rest := []) (lenOf pd__II_I rfl) rfl (by show 2 * 0 + _ ≤ _; exact Nat.le_of_eq rfl) (hb hby at_26) (fun _ _ => ⟨rfl, eH2, (by decide : 0 + 0 ≤ _), (by decide : 0 + 0 ≤ _)⟩)
  dsimp only [Pt.U, Pt.locs, Pt.cells, Pt.slots] at X3 l3 y3 z3 st3 hQ3
  try dsimp only [Nat.reduceAdd] at y3 z3
  rw [l3, y3, z3] at X3
  obtain ⟨r_3, rfl, Nq3, eH3, q3_0⟩ := hQ3
  have N3 := Fr.app N2 Nq3
  refine own_st st3 ?_
  show own_Go p e below T3 (mkF m 29 #[.val (.int p0), .val (.int p1), .val (.int p2), .val (.int p3), .val (.int r_1), .val (.int r_2), .unset, .unset, .unset, .unset, .unset, .unset, .unset] [(.int r_3)]) _
  obtain ⟨cs2, hM2⟩ := own_mkE q3_0 p2
  refine own_st (fun t_ k_ => XS.istore X3.here hx rfl (hb hby at_29) rfl (l' := #[.val (.int p0), .val (.int p1), .val (.int p2), .val (.int p3), .val (.int r_1), .val (.int r_2), .val (.int r_3), .unset, .unset, .unset, .unset, .unset, .unset]) rfl (XS.iload X3.here hx rfl (hb hby at_31) rfl (XS.iloadN X3.here hx rfl (hb hby at_33) rfl k_))) ?_
  show own_Go p e below T3 (mkF m 34 #[.val (.int p0), .val (.int p1), .val (.int p2), .val (.int p3), .val (.int r_1), .val (.int r_2), .val (.int r_3), .unset, .unset, .unset, .unset, .unset, .unset] [(.int p0), (.int r_1)]) _
  obtain ⟨_, _, ⟨T4, L4, k4, n4⟩, -, Xa4, hSa4, hGa4, ⟨Lc4, hQ4, l4, y4, z4, A4⟩, st4⟩ := Jvm.RoadKit.callSS X3 hx (y := (⟨"com/example/beanharness/beanharness/FindingToStringPinLaw", "mk", "(II)Ljava/lang/String;"⟩ : MethodName)) hown (mvT hZ (own_w hw 4 rfl)) (mvT hZ (own_w hw 5 rfl)) (mvT hZ (own_w hw 6 rfl)) (mvT hZ (own_w hw 7 rfl)) (by decide) (backOfSH (W := 0) (rmMk l Z a0 hw [] r_1 p0 cs0 zc h0 n0 Z0 hM0 pS_COMPACT_STRINGS pP5 pO) hZ (own_w hw 7 rfl) (own_w hw 6 rfl) (by decide) (by decide) hEL hCH) (g := (mkF m 34 #[.val (.int p0), .val (.int p1), .val (.int p2), .val (.int p3), .val (.int r_1), .val (.int r_2), .val (.int r_3), .unset, .unset, .unset, .unset, .unset, .unset] [(.int p0), (.int r_1)])) rfl (by rw [hml]; rfl) (argsL := [(.int r_1), (.int p0)]) (rest := []) (lenOf pd__II_Ljava_lang_String_ rfl) rfl (by show 2 * 0 + _ ≤ _; exact Nat.le_of_eq rfl) (hb hby at_34) (fun _ _ => ⟨rfl, eH3, (by decide : 0 + 6 ≤ _), (by decide : 0 + 12 ≤ _)⟩)
  dsimp only [Pt.U, Pt.locs, Pt.cells, Pt.slots] at Xa4 hSa4 hGa4 l4 y4 z4 A4 st4 hQ4
  try dsimp only [Nat.reduceAdd] at y4 z4
  rw [l4, y4, z4] at Xa4
  obtain ⟨X4, hS, hZ, hown⟩ := rebS hS (by rw [eH3]; exact hK0) Xa4 hSa4 hGa4 hZ hown
  obtain ⟨y_4, t_4, kb_4, rfl, Nq4, Kq4, q4_0, q4_1, q4_2, q4_3⟩ := hQ4
  have N4 := Fr.app N3 Nq4
  have CH5 := A4.1
  have CR5 := CHr.trans hCR (A4)
  have K6 : Keep h0 T4.heap [] := (Keep.refl h0 []).trans Kq4 all0
  have hK4 : T4.heap.size ≤ T4.heap.size := Nat.le_refl _
  refine own_tr st4 ?_
  show own_Go p e below T4 (mkF m 37 #[.val (.int p0), .val (.int p1), .val (.int p2), .val (.int p3), .val (.int r_1), .val (.int r_2), .val (.int r_3), .unset, .unset, .unset, .unset, .unset, .unset] [(.ref y_4)]) _
  refine own_st (fun t_ k_ => XS.astore X4.here hx rfl (hb hby at_37) rfl rfl (l' := #[.val (.int p0), .val (.int p1), .val (.int p2), .val (.int p3), .val (.int r_1), .val (.int r_2), .val (.int r_3), .val (.ref y_4), .unset, .unset, .unset, .unset, .unset]) rfl (XS.iload X4.here hx rfl (hb hby at_39) rfl (XS.iloadN X4.here hx rfl (hb hby at_41) rfl k_))) ?_
  show own_Go p e below T4 (mkF m 42 #[.val (.int p0), .val (.int p1), .val (.int p2), .val (.int p3), .val (.int r_1), .val (.int r_2), .val (.int r_3), .val (.ref y_4), .unset, .unset, .unset, .unset, .unset] [(.int p1), (.int r_2)]) _
  have f7 := (Nat.le_trans Z0 Kq4.1)
  have f8 := (pO.keep Kq4 all0)
  obtain ⟨_, _, ⟨T9, L9, k9, n9⟩, -, Xa9, hSa9, hGa9, ⟨Lc9, hQ9, l9, y9, z9, A9⟩, st9⟩ := Jvm.RoadKit.callSS X4 hx (y := (⟨"com/example/beanharness/beanharness/FindingToStringPinLaw", "mk", "(II)Ljava/lang/String;"⟩ : MethodName)) hown (mvT hZ (own_w hw 4 rfl)) (mvT hZ (own_w hw 5 rfl)) (mvT hZ (own_w hw 6 rfl)) (mvT hZ (own_w hw 7 rfl)) (by decide) (backOfSH (W := 0) (rmMk l Z a0 hw [] r_2 p1 cs1 zc T4.heap n0 f7 hM1 pS_COMPACT_STRINGS pP5 f8) hZ (own_w hw 7 rfl) (own_w hw 6 rfl) (by decide) (by decide) hEL CH5) (g := (mkF m 42 #[.val (.int p0), .val (.int p1), .val (.int p2), .val (.int p3), .val (.int r_1), .val (.int r_2), .val (.int r_3), .val (.ref y_4), .unset, .unset, .unset, .unset, .unset] [(.int p1), (.int r_2)])) rfl (by rw [hml]; rfl) (argsL := [(.int r_2), (.int p1)]) (rest := []) (lenOf pd__II_Ljava_lang_String_ rfl) rfl (by show 2 * 0 + _ ≤ _; exact Nat.le_of_eq rfl) (hb hby at_42) (fun _ _ => ⟨rfl, rfl, (by decide : 6 + 6 ≤ _), (by decide : 12 + 12 ≤ _)⟩)
  dsimp only [Pt.U, Pt.locs, Pt.cells, Pt.slots] at Xa9 hSa9 hGa9 l9 y9 z9 A9 st9 hQ9
  try dsimp only [Nat.reduceAdd] at y9 z9
  rw [l9, y9, z9] at Xa9
  obtain ⟨X9, hS, hZ, hown⟩ := rebS hS hK4 Xa9 hSa9 hGa9 hZ hown
  obtain ⟨y_9, t_9, kb_9, rfl, Nq9, Kq9, q9_0, q9_1, q9_2, q9_3⟩ := hQ9
  have N9 := Fr.app N4 Nq9
  have CH10 := A9.1
  have CR10 := CHr.trans CR5 (A9)
  have K11 : Keep h0 T9.heap [] := K6.trans Kq9 all0
  have hK9 : T9.heap.size ≤ T9.heap.size := Nat.le_refl _
  refine own_tr st9 ?_
  show own_Go p e below T9 (mkF m 45 #[.val (.int p0), .val (.int p1), .val (.int p2), .val (.int p3), .val (.int r_1), .val (.int r_2), .val (.int r_3), .val (.ref y_4), .unset, .unset, .unset, .unset, .unset] [(.ref y_9)]) _
  refine own_st (fun t_ k_ => XS.astore X9.here hx rfl (hb hby at_45) rfl rfl (l' := #[.val (.int p0), .val (.int p1), .val (.int p2), .val (.int p3), .val (.int r_1), .val (.int r_2), .val (.int r_3), .val (.ref y_4), .val (.ref y_9), .unset, .unset, .unset, .unset]) rfl (XS.iload X9.here hx rfl (hb hby at_47) rfl (XS.iloadN X9.here hx rfl (hb hby at_49) rfl k_))) ?_
  show own_Go p e below T9 (mkF m 50 #[.val (.int p0), .val (.int p1), .val (.int p2), .val (.int p3), .val (.int r_1), .val (.int r_2), .val (.int r_3), .val (.ref y_4), .val (.ref y_9), .unset, .unset, .unset, .unset] [(.int p2), (.int r_3)]) _
  have f12 := (Nat.le_trans f7 Kq9.1)
  have f13 := (f8.keep Kq9 all0)
  obtain ⟨_, _, ⟨T14, L14, k14, n14⟩, -, Xa14, hSa14, hGa14, ⟨Lc14, hQ14, l14, y14, z14, A14⟩, st14⟩ := Jvm.RoadKit.callSS X9 hx (y := (⟨"com/example/beanharness/beanharness/FindingToStringPinLaw", "mk", "(II)Ljava/lang/String;"⟩ : MethodName)) hown (mvT hZ (own_w hw 4 rfl)) (mvT hZ (own_w hw 5 rfl)) (mvT hZ (own_w hw 6 rfl)) (mvT hZ (own_w hw 7 rfl)) (by decide) (backOfSH (W := 0) (rmMk l Z a0 hw [] r_3 p2 cs2 zc T9.heap n0 f12 hM2 pS_COMPACT_STRINGS pP5 f13) hZ (own_w hw 7 rfl) (own_w hw 6 rfl) (by decide) (by decide) hEL CH10) (g := (mkF m 50 #[.val (.int p0), .val (.int p1), .val (.int p2), .val (.int p3), .val (.int r_1), .val (.int r_2), .val (.int r_3), .val (.ref y_4), .val (.ref y_9), .unset, .unset, .unset, .unset] [(.int p2), (.int r_3)])) rfl (by rw [hml]; rfl) (argsL := [(.int r_3), (.int p2)]) (rest := []) (lenOf pd__II_Ljava_lang_String_ rfl) rfl (by show 2 * 0 + _ ≤ _; exact Nat.le_of_eq rfl) (hb hby at_50) (fun _ _ => ⟨rfl, rfl, (by decide : 12 + 6 ≤ _), (by decide : 24 + 12 ≤ _)⟩)
  dsimp only [Pt.U, Pt.locs, Pt.cells, Pt.slots] at Xa14 hSa14 hGa14 l14 y14 z14 A14 st14 hQ14
  try dsimp only [Nat.reduceAdd] at y14 z14
  rw [l14, y14, z14] at Xa14
  obtain ⟨X14, hS, hZ, hown⟩ := rebS hS hK9 Xa14 hSa14 hGa14 hZ hown
  obtain ⟨y_14, t_14, kb_14, rfl, Nq14, Kq14, q14_0, q14_1, q14_2, q14_3⟩ := hQ14
  have N14 := Fr.app N9 Nq14
  have CH15 := A14.1
  have CR15 := CHr.trans CR10 (A14)
  have K16 : Keep h0 T14.heap [] := K11.trans Kq14 all0
  have hK14 : T14.heap.size ≤ T14.heap.size := Nat.le_refl _
  refine own_tr st14 ?_
  show own_Go p e below T14 (mkF m 53 #[.val (.int p0), .val (.int p1), .val (.int p2), .val (.int p3), .val (.int r_1), .val (.int r_2), .val (.int r_3), .val (.ref y_4), .val (.ref y_9), .unset, .unset, .unset, .unset] [(.ref y_14)]) _
  refine own_st (fun t_ k_ => XS.astore X14.here hx rfl (hb hby at_53) rfl rfl (l' := #[.val (.int p0), .val (.int p1), .val (.int p2), .val (.int p3), .val (.int r_1), .val (.int r_2), .val (.int r_3), .val (.ref y_4), .val (.ref y_9), .val (.ref y_14), .unset, .unset, .unset]) rfl k_) ?_
  show own_Go p e below T14 (mkF m 55 #[.val (.int p0), .val (.int p1), .val (.int p2), .val (.int p3), .val (.int r_1), .val (.int r_2), .val (.int r_3), .val (.ref y_4), .val (.ref y_9), .val (.ref y_14), .unset, .unset, .unset] []) _
  have f17 := (Nat.le_trans f12 Kq14.1)
  obtain ⟨T18, h18, X18, e18, E18, A18, D18, -, st18⟩ := newO X14 hx hZ hown (own_w hw 41 rfl) (own_w hw 42 rfl) (own_w hw 43 rfl) rfl (g := (mkF m 55 #[.val (.int p0), .val (.int p1), .val (.int p2), .val (.int p3), .val (.int r_1), .val (.int r_2), .val (.int r_3), .val (.ref y_4), .val (.ref y_9), .val (.ref y_14), .unset, .unset, .unset] [])) rfl (hb hby at_55) (by decide) (by decide)
  obtain ⟨b18, g18⟩ : ∃ z, z = T14.heap.size := ⟨_, rfl⟩
  rw [← g18] at A18 D18 st18
  have G18 : n0 ≤ b18 := Nat.le_trans f17 (Nat.le_of_eq g18.symm)
  have B18 : h0.size ≤ b18 := Nat.le_trans K16.1 (Nat.le_of_eq g18.symm)
  have CH19 := CH15.ext E18
  have CR19 := CHr.trans CR15 (CHr.ext E18 CH15)
  have K20 : Keep h0 h18 [] := K16.ext E18
  have D18_property : Fld Z h18 b18 "com/example/beanharness/beanharness/Finding" "property" "Ljava/lang/String;" .null := D18 (Or.inr (own_w hw 54 rfl)) (ty := (.object "java/lang/String")) (by decide)
  have D18_check : Fld Z h18 b18 "com/example/beanharness/beanharness/Finding" "check" "Ljava/lang/String;" .null := D18 (Or.inr (own_w hw 56 rfl)) (ty := (.object "java/lang/String")) (by decide)
  have D18_message : Fld Z h18 b18 "com/example/beanharness/beanharness/Finding" "message" "Ljava/lang/String;" .null := D18 (Or.inr (own_w hw 58 rfl)) (ty := (.object "java/lang/String")) (by decide)
  refine own_st st18 ?_
  show own_Go p e below T18 (mkF m 58 #[.val (.int p0), .val (.int p1), .val (.int p2), .val (.int p3), .val (.int r_1), .val (.int r_2), .val (.int r_3), .val (.ref y_4), .val (.ref y_9), .val (.ref y_14), .unset, .unset, .unset] [(.ref b18)]) _
  refine own_st (fun t_ k_ => XS.dup X18.here hx rfl (hb hby at_58) rfl rfl (XS.aload X18.here hx rfl (hb hby at_59) rfl rfl (XS.aload X18.here hx rfl (hb hby at_61) rfl rfl (XS.aload X18.here hx rfl (hb hby at_63) rfl rfl k_)))) ?_
  show own_Go p e below T18 (mkF m 65 #[.val (.int p0), .val (.int p1), .val (.int p2), .val (.int p3), .val (.int r_1), .val (.int r_2), .val (.int r_3), .val (.ref y_4), .val (.ref y_9), .val (.ref y_14), .unset, .unset, .unset] [(.ref y_14), (.ref y_9), (.ref y_4), (.ref b18), (.ref b18)]) _
  have f21 := (Nat.le_trans f17 E18.1)
  obtain ⟨_, _, ⟨T22, L22, k22, n22⟩, -, X22, ⟨Lc22, hQ22, l22, y22, z22⟩, st22⟩ := X18.specialBack hx (y := (⟨"com/example/beanharness/beanharness/Finding", "<init>", "(Ljava/lang/String;Ljava/lang/String;Ljava/lang/String;)V"⟩ : MethodName)) rfl hown (mvT hZ (own_w hw 44 rfl)) (mvT hZ (own_w hw 45 rfl)) (mvT hZ (own_w hw 46 rfl)) (by decide) (backOf (W := 1) (rmSi l Z a0 hw [] b18 y_4 y_9 y_14 .null .null .null h18 n0 f21 A18 D18_property D18_check D18_message G18) hZ (own_w hw 46 rfl) (own_w hw 43 rfl) (by decide) (by decide)) (g := (mkF m 65 #[.val (.int p0), .val (.int p1), .val (.int p2), .val (.int p3), .val (.int r_1), .val (.int r_2), .val (.int r_3), .val (.ref y_4), .val (.ref y_9), .val (.ref y_14), .unset, .unset, .unset] [(.ref y_14), (.ref y_9), (.ref y_4), (.ref b18), (.ref b18)])) rfl (by rw [hml]; rfl) (Steps.refl _) (a := b18) (argsL := [(.ref y_4), (.ref y_9), (.ref y_14)]) (rest := [(.ref b18)]) (lenOf pd__Ljava_lang_String_Ljava_lang_String_Ljava_lang_String__V rfl) rfl (by show 2 * 0 + _ ≤ _; exact Nat.le_of_eq rfl) (hb hby at_65) (fun _ _ => ⟨rfl, e18, (by decide : 19 + 0 ≤ _), (by decide : 39 + 0 ≤ _)⟩)
  dsimp only [Pt.U, Pt.locs, Pt.cells, Pt.slots] at X22 l22 y22 z22 st22 hQ22
  try dsimp only [Nat.reduceAdd] at y22 z22
  rw [l22, y22, z22] at X22
  obtain ⟨rfl, Nq22, Kq22, q22_0, q22_1, q22_2, q22_3⟩ := hQ22
  have N22 := Fr.app N14 Nq22
  have Sa23 : ∀ y ∈ [b18], Safe Z own_EL T14.vm h18 y := (sfS (Safe.exa hZ.alike A18 (by decide) (by decide)) sf0)
  have CH23 := CH19.keep Kq22 Sa23
  have CR23 := CHr.trans CR19 (CHr.keep Kq22 Sa23 CH19)
  have K24 : Keep h0 T22.heap [] := K20.trans Kq22 (allS (Or.inr B18) all0)
  refine own_tr st22 ?_
  show own_Go p e below T22 (mkF m 68 #[.val (.int p0), .val (.int p1), .val (.int p2), .val (.int p3), .val (.int r_1), .val (.int r_2), .val (.int r_3), .val (.ref y_4), .val (.ref y_9), .val (.ref y_14), .unset, .unset, .unset] [(.ref b18)]) _
  have f25 := (Nat.le_trans f21 Kq22.1)
  have f26 := ((((q4_0.keep Kq9).keep Kq14).ext E18).keep Kq22)
  have f27 := ((((q4_1.keep Kq9 nin0).keep Kq14 nin0).ext E18).keep Kq22 (ninS (Nat.ne_of_lt (Nat.lt_of_lt_of_le ((q4_0.keep Kq9).keep Kq14).lt (Nat.le_of_eq g18.symm))) nin0))
  have f28 := ((((q4_2.keep Kq9 nin0).keep Kq14 nin0).ext E18).keep Kq22 (ninS (Nat.ne_of_lt (Nat.lt_of_lt_of_le ((q4_0.keep Kq9).keep Kq14).lt (Nat.le_of_eq g18.symm))) nin0))
  have f29 := ((((q4_3.keep Kq9 nin0).keep Kq14 nin0).ext E18).keep Kq22 (ninS (Nat.ne_of_lt (Nat.lt_of_lt_of_le ((q4_3.keep Kq9 nin0).keep Kq14 nin0).lt (Nat.le_of_eq g18.symm))) nin0))
  have f30 := (((q9_0.keep Kq14).ext E18).keep Kq22)
  have f31 := (((q9_1.keep Kq14 nin0).ext E18).keep Kq22 (ninS (Nat.ne_of_lt (Nat.lt_of_lt_of_le (q9_0.keep Kq14).lt (Nat.le_of_eq g18.symm))) nin0))
  have f32 := (((q9_2.keep Kq14 nin0).ext E18).keep Kq22 (ninS (Nat.ne_of_lt (Nat.lt_of_lt_of_le (q9_0.keep Kq14).lt (Nat.le_of_eq g18.symm))) nin0))
  have f33 := (((q9_3.keep Kq14 nin0).ext E18).keep Kq22 (ninS (Nat.ne_of_lt (Nat.lt_of_lt_of_le (q9_3.keep Kq14 nin0).lt (Nat.le_of_eq g18.symm))) nin0))
  have f34 := ((q14_0.ext E18).keep Kq22)
  have f35 := ((q14_1.ext E18).keep Kq22 (ninS (Nat.ne_of_lt (Nat.lt_of_lt_of_le q14_0.lt (Nat.le_of_eq g18.symm))) nin0))
  have f36 := ((q14_2.ext E18).keep Kq22 (ninS (Nat.ne_of_lt (Nat.lt_of_lt_of_le q14_0.lt (Nat.le_of_eq g18.symm))) nin0))
  have f37 := ((q14_3.ext E18).keep Kq22 (ninS (Nat.ne_of_lt (Nat.lt_of_lt_of_le q14_3.lt (Nat.le_of_eq g18.symm))) nin0))
  have f38 := (((f13.keep Kq14 all0).ext E18).keep Kq22 (allS G18 all0))
  have f40 := (Nat.le_trans (Nat.le_trans hK14 E18.1) Kq22.1)
  obtain ⟨cq39, kq39, qa39, qb39, qc39⟩ := isOf hZ rfl q22_0
  obtain ⟨_, _, ⟨T39, L39, k39, n39⟩, -, Xa39, hSa39, hGa39, ⟨Lc39, hQ39, l39, y39, z39, A39⟩, st39⟩ := X22.virtualBackS hx (y := (⟨"com/example/beanharness/beanharness/Finding", "toString", "()Ljava/lang/String;"⟩ : MethodName)) (z := (⟨"com/example/beanharness/beanharness/Finding", "toString", "()Ljava/lang/String;"⟩ : MethodName)) hown (mvT hZ (own_w hw 59 rfl)) (mvT hZ (own_w hw 60 rfl)) (notFace_of_selects (args := #[]) (mvT hZ (own_w hw 62 rfl))) (mvT hZ (own_w hw 62 rfl)) (mvT hZ (own_w hw 61 rfl)) (by decide) (backOfSH (W := 0) (rmTo l Z a0 hw [] b18 y_4 t_4 kb_4 cs0 y_9 t_9 kb_9 cs1 y_14 t_14 kb_14 cs2 zc T22.heap n0 f25 q22_0 q22_1 q22_2 q22_3 f26 f27 f28 f29 f30 f31 f32 f33 f34 f35 f36 f37 (own_mkL hM0) (own_mkL hM1) (own_mkL hM2) pS_COMPACT_STRINGS pP5 f38) hZ (own_w hw 63 rfl) (own_w hw 43 rfl) (by decide) (by decide) hEL CH23) qa39 qc39 (g := (mkF m 68 #[.val (.int p0), .val (.int p1), .val (.int p2), .val (.int p3), .val (.int r_1), .val (.int r_2), .val (.int r_3), .val (.ref y_4), .val (.ref y_9), .val (.ref y_14), .unset, .unset, .unset] [(.ref b18)])) rfl (by rw [hml]; rfl) (Steps.refl _) (argsL := []) (rest := []) (lenOf pd___Ljava_lang_String_ rfl) rfl (by show 2 * 0 + _ ≤ _; exact Nat.le_of_eq rfl) (hb hby at_68) (fun _ _ => ⟨rfl, rfl, (by decide : 19 + 8 ≤ _), (by decide : 39 + 68 ≤ _)⟩)
  dsimp only [Pt.U, Pt.locs, Pt.cells, Pt.slots] at Xa39 hSa39 hGa39 l39 y39 z39 A39 st39 hQ39
  try dsimp only [Nat.reduceAdd] at y39 z39
  rw [l39, y39, z39] at Xa39
  obtain ⟨X39, hS, hZ, hown⟩ := rebS hS f40 Xa39 hSa39 hGa39 hZ hown
  obtain ⟨y_39, b_39, kb_39, rfl, Nq39, Kq39, q39_0, q39_1, q39_2, q39_3⟩ := hQ39
  have N39 := Fr.app N22 Nq39
  have CH41 := A39.1
  have CR41 := CHr.trans CR23 (A39)
  have K42 : Keep h0 T39.heap [] := K24.trans Kq39 all0
  have hK39 : T39.heap.size ≤ T39.heap.size := Nat.le_refl _
  refine own_tr st39 ?_
  show own_Go p e below T39 (mkF m 71 #[.val (.int p0), .val (.int p1), .val (.int p2), .val (.int p3), .val (.int r_1), .val (.int r_2), .val (.int r_3), .val (.ref y_4), .val (.ref y_9), .val (.ref y_14), .unset, .unset, .unset] [(.ref y_39)]) _
  have lA := own_len cs0 cs1 cs2
  have hpA := own_allP (own_mkP hM0) (own_mkP hM1) (own_mkP hM2)
  have lB : (own_all cs0 cs1 cs2).length ≤ 11 := by have := own_mkL hM0; have := own_mkL hM1; have := own_mkL hM2; omega
  have q4A : (own_all cs0 cs1 cs2).length ≤ 4000 := by omega
  refine own_st (fun t_ k_ => XS.astore X39.here hx rfl (hb hby at_71) rfl rfl (l' := #[.val (.int p0), .val (.int p1), .val (.int p2), .val (.int p3), .val (.int r_1), .val (.int r_2), .val (.int r_3), .val (.ref y_4), .val (.ref y_9), .val (.ref y_14), .val (.ref y_39), .unset, .unset]) rfl (XS.bipush X39.here hx rfl (hb hby at_73) k_)) ?_
  show own_Go p e below T39 (mkF m 75 #[.val (.int p0), .val (.int p1), .val (.int p2), .val (.int p3), .val (.int r_1), .val (.int r_2), .val (.int r_3), .val (.ref y_4), .val (.ref y_9), .val (.ref y_14), .val (.ref y_39), .unset, .unset] [(.int (11 : Int32))]) _
  have f43 := (Nat.le_trans f25 Kq39.1)
  obtain ⟨T44, h44, k44, X44, e44, E44, A44, st44⟩ := newP X39 hx hZ (own_w hw 8 rfl) rfl (g := (mkF m 75 #[.val (.int p0), .val (.int p1), .val (.int p2), .val (.int p3), .val (.int r_1), .val (.int r_2), .val (.int r_3), .val (.ref y_4), .val (.ref y_9), .val (.ref y_14), .val (.ref y_39), .unset, .unset] [(.int (11 : Int32))])) rfl (hb hby at_75) rfl (by decide) (cap := 11) (by decide) (by decide) (by decide) (by decide)
  obtain ⟨b44, g44⟩ : ∃ z, z = T39.heap.size := ⟨_, rfl⟩
  rw [← g44] at A44 st44
  have G44 : n0 ≤ b44 := Nat.le_trans f43 (Nat.le_of_eq g44.symm)
  have B44 : h0.size ≤ b44 := Nat.le_trans K42.1 (Nat.le_of_eq g44.symm)
  have CH45 := CH41.ext E44
  have CR45 := CHr.trans CR41 (CHr.ext E44 CH41)
  have K46 : Keep h0 h44 [] := K42.ext E44
  have V44 : Arv Z h44 b44 k44 .char (11 : Int32) [(.int (0 : Int32)), (.int (0 : Int32)), (.int (0 : Int32)), (.int (0 : Int32)), (.int (0 : Int32)), (.int (0 : Int32)), (.int (0 : Int32)), (.int (0 : Int32)), (.int (0 : Int32)), (.int (0 : Int32)), (.int (0 : Int32))] (.int (0 : Int32)) := (Arv.new A44 (by decide)).pad (pad_rep [] (.int (0 : Int32)) 11)
  refine own_st st44 ?_
  show own_Go p e below T44 (mkF m 77 #[.val (.int p0), .val (.int p1), .val (.int p2), .val (.int p3), .val (.int r_1), .val (.int r_2), .val (.int r_3), .val (.ref y_4), .val (.ref y_9), .val (.ref y_14), .val (.ref y_39), .unset, .unset] [(.ref b44)]) _
  refine own_st (fun t_ k_ => XS.astore X44.here hx rfl (hb hby at_77) rfl rfl (l' := #[.val (.int p0), .val (.int p1), .val (.int p2), .val (.int p3), .val (.int r_1), .val (.int r_2), .val (.int r_3), .val (.ref y_4), .val (.ref y_9), .val (.ref y_14), .val (.ref y_39), .val (.ref b44), .unset]) rfl (XS.iconst X44.here hx rfl (hb hby at_79) (XS.istore X44.here hx rfl (hb hby at_80) rfl (l' := #[.val (.int p0), .val (.int p1), .val (.int p2), .val (.int p3), .val (.int r_1), .val (.int r_2), .val (.int r_3), .val (.ref y_4), .val (.ref y_9), .val (.ref y_14), .val (.ref y_39), .val (.ref b44), .val (.int (0 : Int32))]) rfl k_))) ?_
  show own_Go p e below T44 (mkF m 82 #[.val (.int p0), .val (.int p1), .val (.int p2), .val (.int p3), .val (.int r_1), .val (.int r_2), .val (.int r_3), .val (.ref y_4), .val (.ref y_9), .val (.ref y_14), .val (.ref y_39), .val (.ref b44), .val (.int (0 : Int32))] []) _
  refine own_hold ?_
  intro KK hKK
  show own_Go p e below T44 (mkF m 82 #[.val (.int p0), .val (.int p1), .val (.int p2), .val (.int p3), .val (.int r_1), .val (.int r_2), .val (.int r_3), .val (.ref y_4), .val (.ref y_9), .val (.ref y_14), .val (.ref y_39), .val (.ref b44), .val (.int (0 : Int32))] []) _
  have tail47 : ∀ (Tj47 : State) (hj47 : Heap) (Lj47 : List Loc) (kk : Int32) (pd : List Value), Stand p l e room_1 (s.setVm T39.vm) m #[(.int p0), (.int p1), (.int p2), (.int p3)] below meth c Tj47 Lj47 28 118 → Tj47.heap = hj47 → Fr n0 Lj47 → Keep h44 hj47 [b44] → (Arv Z hj47 b44 k44 .char (11 : Int32) ((own_all cs0 cs1 cs2).map Value.int ++ pd) (.int (0 : Int32))) → (kk = (Int32.ofNat ((own_all cs0 cs1 cs2) : List Int32).length)) → own_Go p e below Tj47 (mkF m 291 #[.val (.int p0), .val (.int p1), .val (.int p2), .val (.int p3), .val (.int r_1), .val (.int r_2), .val (.int r_3), .val (.ref y_4), .val (.ref y_9), .val (.ref y_14), .val (.ref y_39), .val (.ref b44), .val (.int kk)] []) KK := by
    intro Tj47 hj47 Lj47 kk pd Xj47 ej47 Nj47 Kj47 jV jk
    have Sa48 : ∀ y ∈ [b44], Safe Z own_EL T39.vm h44 y := (sfS (Safe.arv hZ.alike V44 (by decide)) sf0)
    have CH48 := CH45.keep Kj47 Sa48
    have CR48 := CHr.trans CR45 (CHr.keep Kj47 Sa48 CH45)
    have K49 : Keep h0 hj47 [] := K46.trans Kj47 (allS (Or.inr B44) all0)
    show own_Go p e below Tj47 (mkF m 291 #[.val (.int p0), .val (.int p1), .val (.int p2), .val (.int p3), .val (.int r_1), .val (.int r_2), .val (.int r_3), .val (.ref y_4), .val (.ref y_9), .val (.ref y_14), .val (.ref y_39), .val (.ref b44), .val (.int kk)] []) _
    refine own_st (fun t_ k_ => XS.aload Xj47.here hx rfl (hb hby at_291) rfl rfl k_) ?_
    show own_Go p e below Tj47 (mkF m 293 #[.val (.int p0), .val (.int p1), .val (.int p2), .val (.int p3), .val (.int r_1), .val (.int r_2), .val (.int r_3), .val (.ref y_4), .val (.ref y_9), .val (.ref y_14), .val (.ref y_39), .val (.ref b44), .val (.int kk)] [(.ref y_39)]) _
    have hcd50 : StrChars.Road.CodA ((own_all cs0 cs1 cs2) : List Int32) 0 (Int32.ofNat ((own_all cs0 cs1 cs2) : List Int32).length) ((((own_all cs0 cs1 cs2) : List Int32).map (fun c : Int32 => c.toInt8.toInt32)).map Value.int) := StrChars.Road.codOf rfl (fun x hx => (hpA x hx).2)
    have hbd50 : ∀ x ∈ ((own_all cs0 cs1 cs2) : List Int32), ¬ x < 0 ∧ ¬ (65535 : Int32) < x := own_up _ hpA
    have f51 := ((q39_0.ext E44).keep Kj47)
    have f52 := ((q39_1.ext E44).keep Kj47 (ninS (Nat.ne_of_lt (Nat.lt_of_lt_of_le q39_0.lt (Nat.le_of_eq g44.symm))) nin0))
    have f53 := ((q39_2.ext E44).keep Kj47 (ninS (Nat.ne_of_lt (Nat.lt_of_lt_of_le q39_0.lt (Nat.le_of_eq g44.symm))) nin0))
    have f54 := ((q39_3.ext E44).keep Kj47 (ninS (Nat.ne_of_lt (Nat.lt_of_lt_of_le q39_3.lt (Nat.le_of_eq g44.symm))) nin0))
    have f55 := (((f38.keep Kq39 all0).ext E44).keep Kj47 (allS G44 all0))
    obtain ⟨cq56, kq56, qa56, qb56, qc56⟩ := isOf hZ ej47 f51
    obtain ⟨_, _, ⟨T56, L56, k56, n56⟩, -, X56, ⟨Lc56, hQ56, l56, y56, z56⟩, st56⟩ := Xj47.virtualBack hx (y := (⟨"java/lang/String", "length", "()I"⟩ : MethodName)) (z := (⟨"java/lang/String", "length", "()I"⟩ : MethodName)) hown (mvT hZ (own_w hw 173 rfl)) (mvT hZ (own_w hw 93 rfl)) (notFace_of_selects (args := #[]) (mvT hZ (own_w hw 95 rfl))) (mvT hZ (own_w hw 95 rfl)) (mvT hZ (own_w hw 94 rfl)) (by decide) (StrChars.Road.lenW (W := 0) hZ hln (kI := 4) (own_w hw 10 rfl) f51 f52 f53 f54 hcd50 hbd50 (pS_COMPACT_STRINGS.ext f55.2) pP5 q4A (by decide) (by decide)) qa56 qc56 (g := (mkF m 293 #[.val (.int p0), .val (.int p1), .val (.int p2), .val (.int p3), .val (.int r_1), .val (.int r_2), .val (.int r_3), .val (.ref y_4), .val (.ref y_9), .val (.ref y_14), .val (.ref y_39), .val (.ref b44), .val (.int kk)] [(.ref y_39)])) rfl (by rw [hml]; rfl) (Steps.refl _) (argsL := []) (rest := []) (lenOf pd___I rfl) rfl (by show 2 * 0 + _ ≤ _; exact Nat.le_of_eq rfl) (hb hby at_293) (fun _ _ => ⟨rfl, ej47, (by decide : 28 + 0 ≤ _), (by decide : 118 + 0 ≤ _)⟩)
    dsimp only [Pt.U, Pt.locs, Pt.cells, Pt.slots] at X56 l56 y56 z56 st56 hQ56
    try dsimp only [Nat.reduceAdd] at y56 z56
    rw [l56, y56, z56] at X56
    obtain ⟨rfl, rfl, eH56⟩ := hQ56
    have N56 := Fr.app Nj47 (Fr.nil n0)
    refine own_tr st56 ?_
    show own_Go p e below T56 (mkF m 296 #[.val (.int p0), .val (.int p1), .val (.int p2), .val (.int p3), .val (.int r_1), .val (.int r_2), .val (.int r_3), .val (.ref y_4), .val (.ref y_9), .val (.ref y_14), .val (.ref y_39), .val (.ref b44), .val (.int kk)] [(.int (Int32.ofNat ((own_all cs0 cs1 cs2) : List Int32).length))]) _
    refine own_st (fun t_ k_ => XS.iload X56.here hx rfl (hb hby at_296) rfl (XS.icmpYes X56.here hx rfl (pc0 := 298) (pc' := 303) rfl (hb hby at_298) rfl (teq jk.symm).1 (by decide) (by decide) (XS.aload X56.here hx rfl (hb hby at_303) rfl rfl (XS.aload X56.here hx rfl (hb hby at_305) rfl rfl (XS.iload X56.here hx rfl (hb hby at_307) rfl (XS.iconst X56.here hx rfl (hb hby at_309) k_)))))) ?_
    show own_Go p e below T56 (mkF m 310 #[.val (.int p0), .val (.int p1), .val (.int p2), .val (.int p3), .val (.int r_1), .val (.int r_2), .val (.int r_3), .val (.ref y_4), .val (.ref y_9), .val (.ref y_14), .val (.ref y_39), .val (.ref b44), .val (.int kk)] [(.int (0 : Int32)), (.int kk), (.ref b44), (.ref y_39)]) _
    have f57 := (Nat.le_trans (Nat.le_trans f43 E44.1) Kj47.1)
    obtain ⟨_, _, ⟨T58, L58, k58, n58⟩, -, X58, ⟨Lc58, hQ58, l58, y58, z58⟩, st58⟩ := Jvm.LawKit.callS X56 hx (y := (⟨"com/example/beanharness/beanharness/FindingToStringPinLaw", "at", "(Ljava/lang/String;[CII)Z"⟩ : MethodName)) hown (mvT hZ (own_w hw 174 rfl)) (mvT hZ (own_w hw 175 rfl)) (mvT hZ (own_w hw 6 rfl)) (mvT hZ (own_w hw 176 rfl)) (by decide) (backOf (W := 0) (rmAt l Z a0 hw [] y_39 b_39 kb_39 b44 k44 kk ((0 : Int32)) 0 ((own_all cs0 cs1 cs2)) pd zc fm hj47 n0 f57 f51 f52 f53 f54 jV hpA lB jk rfl pS_COMPACT_STRINGS pP5 pS_SIOOBE_FORMATTER rfm f55) hZ (own_w hw 176 rfl) (own_w hw 6 rfl) (by decide) (by decide)) (g := (mkF m 310 #[.val (.int p0), .val (.int p1), .val (.int p2), .val (.int p3), .val (.int r_1), .val (.int r_2), .val (.int r_3), .val (.ref y_4), .val (.ref y_9), .val (.ref y_14), .val (.ref y_39), .val (.ref b44), .val (.int kk)] [(.int (0 : Int32)), (.int kk), (.ref b44), (.ref y_39)])) rfl (by rw [hml]; rfl) (argsL := [(.ref y_39), (.ref b44), (.int kk), (.int (0 : Int32))]) (rest := []) (lenOf pd__Ljava_lang_String__CII_Z rfl) rfl (by show 2 * 0 + _ ≤ _; exact Nat.le_of_eq rfl) (hb hby at_310) (fun _ _ => ⟨rfl, eH56, (by decide : 28 + 0 ≤ _), (by decide : 118 + 0 ≤ _)⟩)
    dsimp only [Pt.U, Pt.locs, Pt.cells, Pt.slots] at X58 l58 y58 z58 st58 hQ58
    try dsimp only [Nat.reduceAdd] at y58 z58
    rw [l58, y58, z58] at X58
    obtain ⟨rfl, Nq58, eH58⟩ := hQ58
    have N58 := Fr.app N56 Nq58
    refine own_st st58 ?_
    show own_Go p e below T58 (mkF m 313 #[.val (.int p0), .val (.int p1), .val (.int p2), .val (.int p3), .val (.int r_1), .val (.int r_2), .val (.int r_3), .val (.ref y_4), .val (.ref y_9), .val (.ref y_14), .val (.ref y_39), .val (.ref b44), .val (.int kk)] [(.int (1 : Int32))]) _
    refine own_st (fun t_ k_ => XS.ifNo X58.here hx rfl (hb hby at_313) rfl (by decide) (XS.aload X58.here hx rfl (hb hby at_316) rfl rfl (XS.aload X58.here hx rfl (hb hby at_318) rfl rfl (XS.iload X58.here hx rfl (hb hby at_320) rfl (XS.iconst X58.here hx rfl (hb hby at_322) k_))))) ?_
    show own_Go p e below T58 (mkF m 323 #[.val (.int p0), .val (.int p1), .val (.int p2), .val (.int p3), .val (.int r_1), .val (.int r_2), .val (.int r_3), .val (.ref y_4), .val (.ref y_9), .val (.ref y_14), .val (.ref y_39), .val (.ref b44), .val (.int kk)] [(.int (1 : Int32)), (.int kk), (.ref b44), (.ref y_39)]) _
    obtain ⟨_, _, ⟨T59, L59, k59, n59⟩, -, X59, ⟨Lc59, hQ59, l59, y59, z59⟩, st59⟩ := Jvm.LawKit.callS X58 hx (y := (⟨"com/example/beanharness/beanharness/FindingToStringPinLaw", "at", "(Ljava/lang/String;[CII)Z"⟩ : MethodName)) hown (mvT hZ (own_w hw 174 rfl)) (mvT hZ (own_w hw 175 rfl)) (mvT hZ (own_w hw 6 rfl)) (mvT hZ (own_w hw 176 rfl)) (by decide) (backOf (W := 0) (rmAt l Z a0 hw [] y_39 b_39 kb_39 b44 k44 kk ((1 : Int32)) 1 ((own_all cs0 cs1 cs2)) pd zc fm hj47 n0 f57 f51 f52 f53 f54 jV hpA lB jk rfl pS_COMPACT_STRINGS pP5 pS_SIOOBE_FORMATTER rfm f55) hZ (own_w hw 176 rfl) (own_w hw 6 rfl) (by decide) (by decide)) (g := (mkF m 323 #[.val (.int p0), .val (.int p1), .val (.int p2), .val (.int p3), .val (.int r_1), .val (.int r_2), .val (.int r_3), .val (.ref y_4), .val (.ref y_9), .val (.ref y_14), .val (.ref y_39), .val (.ref b44), .val (.int kk)] [(.int (1 : Int32)), (.int kk), (.ref b44), (.ref y_39)])) rfl (by rw [hml]; rfl) (argsL := [(.ref y_39), (.ref b44), (.int kk), (.int (1 : Int32))]) (rest := []) (lenOf pd__Ljava_lang_String__CII_Z rfl) rfl (by show 2 * 0 + _ ≤ _; exact Nat.le_of_eq rfl) (hb hby at_323) (fun _ _ => ⟨rfl, eH58, (by decide : 28 + 0 ≤ _), (by decide : 118 + 0 ≤ _)⟩)
    dsimp only [Pt.U, Pt.locs, Pt.cells, Pt.slots] at X59 l59 y59 z59 st59 hQ59
    try dsimp only [Nat.reduceAdd] at y59 z59
    rw [l59, y59, z59] at X59
    obtain ⟨rfl, Nq59, eH59⟩ := hQ59
    have N59 := Fr.app N58 Nq59
    refine own_st st59 ?_
    show own_Go p e below T59 (mkF m 326 #[.val (.int p0), .val (.int p1), .val (.int p2), .val (.int p3), .val (.int r_1), .val (.int r_2), .val (.int r_3), .val (.ref y_4), .val (.ref y_9), .val (.ref y_14), .val (.ref y_39), .val (.ref b44), .val (.int kk)] [(.int (1 : Int32))]) _
    refine own_st (fun t_ k_ => XS.ifNo X59.here hx rfl (hb hby at_326) rfl (by decide) (XS.aload X59.here hx rfl (hb hby at_329) rfl rfl (XS.aload X59.here hx rfl (hb hby at_331) rfl rfl (XS.iload X59.here hx rfl (hb hby at_333) rfl (XS.iconst X59.here hx rfl (hb hby at_335) k_))))) ?_
    show own_Go p e below T59 (mkF m 336 #[.val (.int p0), .val (.int p1), .val (.int p2), .val (.int p3), .val (.int r_1), .val (.int r_2), .val (.int r_3), .val (.ref y_4), .val (.ref y_9), .val (.ref y_14), .val (.ref y_39), .val (.ref b44), .val (.int kk)] [(.int (2 : Int32)), (.int kk), (.ref b44), (.ref y_39)]) _
    obtain ⟨_, _, ⟨T60, L60, k60, n60⟩, -, X60, ⟨Lc60, hQ60, l60, y60, z60⟩, st60⟩ := Jvm.LawKit.callS X59 hx (y := (⟨"com/example/beanharness/beanharness/FindingToStringPinLaw", "at", "(Ljava/lang/String;[CII)Z"⟩ : MethodName)) hown (mvT hZ (own_w hw 174 rfl)) (mvT hZ (own_w hw 175 rfl)) (mvT hZ (own_w hw 6 rfl)) (mvT hZ (own_w hw 176 rfl)) (by decide) (backOf (W := 0) (rmAt l Z a0 hw [] y_39 b_39 kb_39 b44 k44 kk ((2 : Int32)) 2 ((own_all cs0 cs1 cs2)) pd zc fm hj47 n0 f57 f51 f52 f53 f54 jV hpA lB jk rfl pS_COMPACT_STRINGS pP5 pS_SIOOBE_FORMATTER rfm f55) hZ (own_w hw 176 rfl) (own_w hw 6 rfl) (by decide) (by decide)) (g := (mkF m 336 #[.val (.int p0), .val (.int p1), .val (.int p2), .val (.int p3), .val (.int r_1), .val (.int r_2), .val (.int r_3), .val (.ref y_4), .val (.ref y_9), .val (.ref y_14), .val (.ref y_39), .val (.ref b44), .val (.int kk)] [(.int (2 : Int32)), (.int kk), (.ref b44), (.ref y_39)])) rfl (by rw [hml]; rfl) (argsL := [(.ref y_39), (.ref b44), (.int kk), (.int (2 : Int32))]) (rest := []) (lenOf pd__Ljava_lang_String__CII_Z rfl) rfl (by show 2 * 0 + _ ≤ _; exact Nat.le_of_eq rfl) (hb hby at_336) (fun _ _ => ⟨rfl, eH59, (by decide : 28 + 0 ≤ _), (by decide : 118 + 0 ≤ _)⟩)
    dsimp only [Pt.U, Pt.locs, Pt.cells, Pt.slots] at X60 l60 y60 z60 st60 hQ60
    try dsimp only [Nat.reduceAdd] at y60 z60
    rw [l60, y60, z60] at X60
    obtain ⟨rfl, Nq60, eH60⟩ := hQ60
    have N60 := Fr.app N59 Nq60
    refine own_st st60 ?_
    show own_Go p e below T60 (mkF m 339 #[.val (.int p0), .val (.int p1), .val (.int p2), .val (.int p3), .val (.int r_1), .val (.int r_2), .val (.int r_3), .val (.ref y_4), .val (.ref y_9), .val (.ref y_14), .val (.ref y_39), .val (.ref b44), .val (.int kk)] [(.int (1 : Int32))]) _
    refine own_st (fun t_ k_ => XS.ifNo X60.here hx rfl (hb hby at_339) rfl (by decide) (XS.aload X60.here hx rfl (hb hby at_342) rfl rfl (XS.aload X60.here hx rfl (hb hby at_344) rfl rfl (XS.iload X60.here hx rfl (hb hby at_346) rfl (XS.iconst X60.here hx rfl (hb hby at_348) k_))))) ?_
    show own_Go p e below T60 (mkF m 349 #[.val (.int p0), .val (.int p1), .val (.int p2), .val (.int p3), .val (.int r_1), .val (.int r_2), .val (.int r_3), .val (.ref y_4), .val (.ref y_9), .val (.ref y_14), .val (.ref y_39), .val (.ref b44), .val (.int kk)] [(.int (3 : Int32)), (.int kk), (.ref b44), (.ref y_39)]) _
    obtain ⟨_, _, ⟨T61, L61, k61, n61⟩, -, X61, ⟨Lc61, hQ61, l61, y61, z61⟩, st61⟩ := Jvm.LawKit.callS X60 hx (y := (⟨"com/example/beanharness/beanharness/FindingToStringPinLaw", "at", "(Ljava/lang/String;[CII)Z"⟩ : MethodName)) hown (mvT hZ (own_w hw 174 rfl)) (mvT hZ (own_w hw 175 rfl)) (mvT hZ (own_w hw 6 rfl)) (mvT hZ (own_w hw 176 rfl)) (by decide) (backOf (W := 0) (rmAt l Z a0 hw [] y_39 b_39 kb_39 b44 k44 kk ((3 : Int32)) 3 ((own_all cs0 cs1 cs2)) pd zc fm hj47 n0 f57 f51 f52 f53 f54 jV hpA lB jk rfl pS_COMPACT_STRINGS pP5 pS_SIOOBE_FORMATTER rfm f55) hZ (own_w hw 176 rfl) (own_w hw 6 rfl) (by decide) (by decide)) (g := (mkF m 349 #[.val (.int p0), .val (.int p1), .val (.int p2), .val (.int p3), .val (.int r_1), .val (.int r_2), .val (.int r_3), .val (.ref y_4), .val (.ref y_9), .val (.ref y_14), .val (.ref y_39), .val (.ref b44), .val (.int kk)] [(.int (3 : Int32)), (.int kk), (.ref b44), (.ref y_39)])) rfl (by rw [hml]; rfl) (argsL := [(.ref y_39), (.ref b44), (.int kk), (.int (3 : Int32))]) (rest := []) (lenOf pd__Ljava_lang_String__CII_Z rfl) rfl (by show 2 * 0 + _ ≤ _; exact Nat.le_of_eq rfl) (hb hby at_349) (fun _ _ => ⟨rfl, eH60, (by decide : 28 + 0 ≤ _), (by decide : 118 + 0 ≤ _)⟩)
    dsimp only [Pt.U, Pt.locs, Pt.cells, Pt.slots] at X61 l61 y61 z61 st61 hQ61
    try dsimp only [Nat.reduceAdd] at y61 z61
    rw [l61, y61, z61] at X61
    obtain ⟨rfl, Nq61, eH61⟩ := hQ61
    have N61 := Fr.app N60 Nq61
    refine own_st st61 ?_
    show own_Go p e below T61 (mkF m 352 #[.val (.int p0), .val (.int p1), .val (.int p2), .val (.int p3), .val (.int r_1), .val (.int r_2), .val (.int r_3), .val (.ref y_4), .val (.ref y_9), .val (.ref y_14), .val (.ref y_39), .val (.ref b44), .val (.int kk)] [(.int (1 : Int32))]) _
    refine own_st (fun t_ k_ => XS.ifNo X61.here hx rfl (hb hby at_352) rfl (by decide) (XS.aload X61.here hx rfl (hb hby at_355) rfl rfl (XS.aload X61.here hx rfl (hb hby at_357) rfl rfl (XS.iload X61.here hx rfl (hb hby at_359) rfl (XS.iconst X61.here hx rfl (hb hby at_361) k_))))) ?_
    show own_Go p e below T61 (mkF m 362 #[.val (.int p0), .val (.int p1), .val (.int p2), .val (.int p3), .val (.int r_1), .val (.int r_2), .val (.int r_3), .val (.ref y_4), .val (.ref y_9), .val (.ref y_14), .val (.ref y_39), .val (.ref b44), .val (.int kk)] [(.int (4 : Int32)), (.int kk), (.ref b44), (.ref y_39)]) _
    obtain ⟨_, _, ⟨T62, L62, k62, n62⟩, -, X62, ⟨Lc62, hQ62, l62, y62, z62⟩, st62⟩ := Jvm.LawKit.callS X61 hx (y := (⟨"com/example/beanharness/beanharness/FindingToStringPinLaw", "at", "(Ljava/lang/String;[CII)Z"⟩ : MethodName)) hown (mvT hZ (own_w hw 174 rfl)) (mvT hZ (own_w hw 175 rfl)) (mvT hZ (own_w hw 6 rfl)) (mvT hZ (own_w hw 176 rfl)) (by decide) (backOf (W := 0) (rmAt l Z a0 hw [] y_39 b_39 kb_39 b44 k44 kk ((4 : Int32)) 4 ((own_all cs0 cs1 cs2)) pd zc fm hj47 n0 f57 f51 f52 f53 f54 jV hpA lB jk rfl pS_COMPACT_STRINGS pP5 pS_SIOOBE_FORMATTER rfm f55) hZ (own_w hw 176 rfl) (own_w hw 6 rfl) (by decide) (by decide)) (g := (mkF m 362 #[.val (.int p0), .val (.int p1), .val (.int p2), .val (.int p3), .val (.int r_1), .val (.int r_2), .val (.int r_3), .val (.ref y_4), .val (.ref y_9), .val (.ref y_14), .val (.ref y_39), .val (.ref b44), .val (.int kk)] [(.int (4 : Int32)), (.int kk), (.ref b44), (.ref y_39)])) rfl (by rw [hml]; rfl) (argsL := [(.ref y_39), (.ref b44), (.int kk), (.int (4 : Int32))]) (rest := []) (lenOf pd__Ljava_lang_String__CII_Z rfl) rfl (by show 2 * 0 + _ ≤ _; exact Nat.le_of_eq rfl) (hb hby at_362) (fun _ _ => ⟨rfl, eH61, (by decide : 28 + 0 ≤ _), (by decide : 118 + 0 ≤ _)⟩)
    dsimp only [Pt.U, Pt.locs, Pt.cells, Pt.slots] at X62 l62 y62 z62 st62 hQ62
    try dsimp only [Nat.reduceAdd] at y62 z62
    rw [l62, y62, z62] at X62
    obtain ⟨rfl, Nq62, eH62⟩ := hQ62
    have N62 := Fr.app N61 Nq62
    refine own_st st62 ?_
    show own_Go p e below T62 (mkF m 365 #[.val (.int p0), .val (.int p1), .val (.int p2), .val (.int p3), .val (.int r_1), .val (.int r_2), .val (.int r_3), .val (.ref y_4), .val (.ref y_9), .val (.ref y_14), .val (.ref y_39), .val (.ref b44), .val (.int kk)] [(.int (1 : Int32))]) _
    refine own_st (fun t_ k_ => XS.ifNo X62.here hx rfl (hb hby at_365) rfl (by decide) (XS.aload X62.here hx rfl (hb hby at_368) rfl rfl (XS.aload X62.here hx rfl (hb hby at_370) rfl rfl (XS.iload X62.here hx rfl (hb hby at_372) rfl (XS.iconst X62.here hx rfl (hb hby at_374) k_))))) ?_
    show own_Go p e below T62 (mkF m 375 #[.val (.int p0), .val (.int p1), .val (.int p2), .val (.int p3), .val (.int r_1), .val (.int r_2), .val (.int r_3), .val (.ref y_4), .val (.ref y_9), .val (.ref y_14), .val (.ref y_39), .val (.ref b44), .val (.int kk)] [(.int (5 : Int32)), (.int kk), (.ref b44), (.ref y_39)]) _
    obtain ⟨_, _, ⟨T63, L63, k63, n63⟩, -, X63, ⟨Lc63, hQ63, l63, y63, z63⟩, st63⟩ := Jvm.LawKit.callS X62 hx (y := (⟨"com/example/beanharness/beanharness/FindingToStringPinLaw", "at", "(Ljava/lang/String;[CII)Z"⟩ : MethodName)) hown (mvT hZ (own_w hw 174 rfl)) (mvT hZ (own_w hw 175 rfl)) (mvT hZ (own_w hw 6 rfl)) (mvT hZ (own_w hw 176 rfl)) (by decide) (backOf (W := 0) (rmAt l Z a0 hw [] y_39 b_39 kb_39 b44 k44 kk ((5 : Int32)) 5 ((own_all cs0 cs1 cs2)) pd zc fm hj47 n0 f57 f51 f52 f53 f54 jV hpA lB jk rfl pS_COMPACT_STRINGS pP5 pS_SIOOBE_FORMATTER rfm f55) hZ (own_w hw 176 rfl) (own_w hw 6 rfl) (by decide) (by decide)) (g := (mkF m 375 #[.val (.int p0), .val (.int p1), .val (.int p2), .val (.int p3), .val (.int r_1), .val (.int r_2), .val (.int r_3), .val (.ref y_4), .val (.ref y_9), .val (.ref y_14), .val (.ref y_39), .val (.ref b44), .val (.int kk)] [(.int (5 : Int32)), (.int kk), (.ref b44), (.ref y_39)])) rfl (by rw [hml]; rfl) (argsL := [(.ref y_39), (.ref b44), (.int kk), (.int (5 : Int32))]) (rest := []) (lenOf pd__Ljava_lang_String__CII_Z rfl) rfl (by show 2 * 0 + _ ≤ _; exact Nat.le_of_eq rfl) (hb hby at_375) (fun _ _ => ⟨rfl, eH62, (by decide : 28 + 0 ≤ _), (by decide : 118 + 0 ≤ _)⟩)
    dsimp only [Pt.U, Pt.locs, Pt.cells, Pt.slots] at X63 l63 y63 z63 st63 hQ63
    try dsimp only [Nat.reduceAdd] at y63 z63
    rw [l63, y63, z63] at X63
    obtain ⟨rfl, Nq63, eH63⟩ := hQ63
    have N63 := Fr.app N62 Nq63
    refine own_st st63 ?_
    show own_Go p e below T63 (mkF m 378 #[.val (.int p0), .val (.int p1), .val (.int p2), .val (.int p3), .val (.int r_1), .val (.int r_2), .val (.int r_3), .val (.ref y_4), .val (.ref y_9), .val (.ref y_14), .val (.ref y_39), .val (.ref b44), .val (.int kk)] [(.int (1 : Int32))]) _
    refine own_st (fun t_ k_ => XS.ifNo X63.here hx rfl (hb hby at_378) rfl (by decide) (XS.aload X63.here hx rfl (hb hby at_381) rfl rfl (XS.aload X63.here hx rfl (hb hby at_383) rfl rfl (XS.iload X63.here hx rfl (hb hby at_385) rfl (XS.bipush X63.here hx rfl (hb hby at_387) k_))))) ?_
    show own_Go p e below T63 (mkF m 389 #[.val (.int p0), .val (.int p1), .val (.int p2), .val (.int p3), .val (.int r_1), .val (.int r_2), .val (.int r_3), .val (.ref y_4), .val (.ref y_9), .val (.ref y_14), .val (.ref y_39), .val (.ref b44), .val (.int kk)] [(.int (6 : Int32)), (.int kk), (.ref b44), (.ref y_39)]) _
    obtain ⟨_, _, ⟨T64, L64, k64, n64⟩, -, X64, ⟨Lc64, hQ64, l64, y64, z64⟩, st64⟩ := Jvm.LawKit.callS X63 hx (y := (⟨"com/example/beanharness/beanharness/FindingToStringPinLaw", "at", "(Ljava/lang/String;[CII)Z"⟩ : MethodName)) hown (mvT hZ (own_w hw 174 rfl)) (mvT hZ (own_w hw 175 rfl)) (mvT hZ (own_w hw 6 rfl)) (mvT hZ (own_w hw 176 rfl)) (by decide) (backOf (W := 0) (rmAt l Z a0 hw [] y_39 b_39 kb_39 b44 k44 kk ((6 : Int32)) 6 ((own_all cs0 cs1 cs2)) pd zc fm hj47 n0 f57 f51 f52 f53 f54 jV hpA lB jk rfl pS_COMPACT_STRINGS pP5 pS_SIOOBE_FORMATTER rfm f55) hZ (own_w hw 176 rfl) (own_w hw 6 rfl) (by decide) (by decide)) (g := (mkF m 389 #[.val (.int p0), .val (.int p1), .val (.int p2), .val (.int p3), .val (.int r_1), .val (.int r_2), .val (.int r_3), .val (.ref y_4), .val (.ref y_9), .val (.ref y_14), .val (.ref y_39), .val (.ref b44), .val (.int kk)] [(.int (6 : Int32)), (.int kk), (.ref b44), (.ref y_39)])) rfl (by rw [hml]; rfl) (argsL := [(.ref y_39), (.ref b44), (.int kk), (.int (6 : Int32))]) (rest := []) (lenOf pd__Ljava_lang_String__CII_Z rfl) rfl (by show 2 * 0 + _ ≤ _; exact Nat.le_of_eq rfl) (hb hby at_389) (fun _ _ => ⟨rfl, eH63, (by decide : 28 + 0 ≤ _), (by decide : 118 + 0 ≤ _)⟩)
    dsimp only [Pt.U, Pt.locs, Pt.cells, Pt.slots] at X64 l64 y64 z64 st64 hQ64
    try dsimp only [Nat.reduceAdd] at y64 z64
    rw [l64, y64, z64] at X64
    obtain ⟨rfl, Nq64, eH64⟩ := hQ64
    have N64 := Fr.app N63 Nq64
    refine own_st st64 ?_
    show own_Go p e below T64 (mkF m 392 #[.val (.int p0), .val (.int p1), .val (.int p2), .val (.int p3), .val (.int r_1), .val (.int r_2), .val (.int r_3), .val (.ref y_4), .val (.ref y_9), .val (.ref y_14), .val (.ref y_39), .val (.ref b44), .val (.int kk)] [(.int (1 : Int32))]) _
    refine own_st (fun t_ k_ => XS.ifNo X64.here hx rfl (hb hby at_392) rfl (by decide) (XS.aload X64.here hx rfl (hb hby at_395) rfl rfl (XS.aload X64.here hx rfl (hb hby at_397) rfl rfl (XS.iload X64.here hx rfl (hb hby at_399) rfl (XS.bipush X64.here hx rfl (hb hby at_401) k_))))) ?_
    show own_Go p e below T64 (mkF m 403 #[.val (.int p0), .val (.int p1), .val (.int p2), .val (.int p3), .val (.int r_1), .val (.int r_2), .val (.int r_3), .val (.ref y_4), .val (.ref y_9), .val (.ref y_14), .val (.ref y_39), .val (.ref b44), .val (.int kk)] [(.int (7 : Int32)), (.int kk), (.ref b44), (.ref y_39)]) _
    obtain ⟨_, _, ⟨T65, L65, k65, n65⟩, -, X65, ⟨Lc65, hQ65, l65, y65, z65⟩, st65⟩ := Jvm.LawKit.callS X64 hx (y := (⟨"com/example/beanharness/beanharness/FindingToStringPinLaw", "at", "(Ljava/lang/String;[CII)Z"⟩ : MethodName)) hown (mvT hZ (own_w hw 174 rfl)) (mvT hZ (own_w hw 175 rfl)) (mvT hZ (own_w hw 6 rfl)) (mvT hZ (own_w hw 176 rfl)) (by decide) (backOf (W := 0) (rmAt l Z a0 hw [] y_39 b_39 kb_39 b44 k44 kk ((7 : Int32)) 7 ((own_all cs0 cs1 cs2)) pd zc fm hj47 n0 f57 f51 f52 f53 f54 jV hpA lB jk rfl pS_COMPACT_STRINGS pP5 pS_SIOOBE_FORMATTER rfm f55) hZ (own_w hw 176 rfl) (own_w hw 6 rfl) (by decide) (by decide)) (g := (mkF m 403 #[.val (.int p0), .val (.int p1), .val (.int p2), .val (.int p3), .val (.int r_1), .val (.int r_2), .val (.int r_3), .val (.ref y_4), .val (.ref y_9), .val (.ref y_14), .val (.ref y_39), .val (.ref b44), .val (.int kk)] [(.int (7 : Int32)), (.int kk), (.ref b44), (.ref y_39)])) rfl (by rw [hml]; rfl) (argsL := [(.ref y_39), (.ref b44), (.int kk), (.int (7 : Int32))]) (rest := []) (lenOf pd__Ljava_lang_String__CII_Z rfl) rfl (by show 2 * 0 + _ ≤ _; exact Nat.le_of_eq rfl) (hb hby at_403) (fun _ _ => ⟨rfl, eH64, (by decide : 28 + 0 ≤ _), (by decide : 118 + 0 ≤ _)⟩)
    dsimp only [Pt.U, Pt.locs, Pt.cells, Pt.slots] at X65 l65 y65 z65 st65 hQ65
    try dsimp only [Nat.reduceAdd] at y65 z65
    rw [l65, y65, z65] at X65
    obtain ⟨rfl, Nq65, eH65⟩ := hQ65
    have N65 := Fr.app N64 Nq65
    refine own_st st65 ?_
    show own_Go p e below T65 (mkF m 406 #[.val (.int p0), .val (.int p1), .val (.int p2), .val (.int p3), .val (.int r_1), .val (.int r_2), .val (.int r_3), .val (.ref y_4), .val (.ref y_9), .val (.ref y_14), .val (.ref y_39), .val (.ref b44), .val (.int kk)] [(.int (1 : Int32))]) _
    refine own_st (fun t_ k_ => XS.ifNo X65.here hx rfl (hb hby at_406) rfl (by decide) (XS.aload X65.here hx rfl (hb hby at_409) rfl rfl (XS.aload X65.here hx rfl (hb hby at_411) rfl rfl (XS.iload X65.here hx rfl (hb hby at_413) rfl (XS.bipush X65.here hx rfl (hb hby at_415) k_))))) ?_
    show own_Go p e below T65 (mkF m 417 #[.val (.int p0), .val (.int p1), .val (.int p2), .val (.int p3), .val (.int r_1), .val (.int r_2), .val (.int r_3), .val (.ref y_4), .val (.ref y_9), .val (.ref y_14), .val (.ref y_39), .val (.ref b44), .val (.int kk)] [(.int (8 : Int32)), (.int kk), (.ref b44), (.ref y_39)]) _
    obtain ⟨_, _, ⟨T66, L66, k66, n66⟩, -, X66, ⟨Lc66, hQ66, l66, y66, z66⟩, st66⟩ := Jvm.LawKit.callS X65 hx (y := (⟨"com/example/beanharness/beanharness/FindingToStringPinLaw", "at", "(Ljava/lang/String;[CII)Z"⟩ : MethodName)) hown (mvT hZ (own_w hw 174 rfl)) (mvT hZ (own_w hw 175 rfl)) (mvT hZ (own_w hw 6 rfl)) (mvT hZ (own_w hw 176 rfl)) (by decide) (backOf (W := 0) (rmAt l Z a0 hw [] y_39 b_39 kb_39 b44 k44 kk ((8 : Int32)) 8 ((own_all cs0 cs1 cs2)) pd zc fm hj47 n0 f57 f51 f52 f53 f54 jV hpA lB jk rfl pS_COMPACT_STRINGS pP5 pS_SIOOBE_FORMATTER rfm f55) hZ (own_w hw 176 rfl) (own_w hw 6 rfl) (by decide) (by decide)) (g := (mkF m 417 #[.val (.int p0), .val (.int p1), .val (.int p2), .val (.int p3), .val (.int r_1), .val (.int r_2), .val (.int r_3), .val (.ref y_4), .val (.ref y_9), .val (.ref y_14), .val (.ref y_39), .val (.ref b44), .val (.int kk)] [(.int (8 : Int32)), (.int kk), (.ref b44), (.ref y_39)])) rfl (by rw [hml]; rfl) (argsL := [(.ref y_39), (.ref b44), (.int kk), (.int (8 : Int32))]) (rest := []) (lenOf pd__Ljava_lang_String__CII_Z rfl) rfl (by show 2 * 0 + _ ≤ _; exact Nat.le_of_eq rfl) (hb hby at_417) (fun _ _ => ⟨rfl, eH65, (by decide : 28 + 0 ≤ _), (by decide : 118 + 0 ≤ _)⟩)
    dsimp only [Pt.U, Pt.locs, Pt.cells, Pt.slots] at X66 l66 y66 z66 st66 hQ66
    try dsimp only [Nat.reduceAdd] at y66 z66
    rw [l66, y66, z66] at X66
    obtain ⟨rfl, Nq66, eH66⟩ := hQ66
    have N66 := Fr.app N65 Nq66
    refine own_st st66 ?_
    show own_Go p e below T66 (mkF m 420 #[.val (.int p0), .val (.int p1), .val (.int p2), .val (.int p3), .val (.int r_1), .val (.int r_2), .val (.int r_3), .val (.ref y_4), .val (.ref y_9), .val (.ref y_14), .val (.ref y_39), .val (.ref b44), .val (.int kk)] [(.int (1 : Int32))]) _
    refine own_st (fun t_ k_ => XS.ifNo X66.here hx rfl (hb hby at_420) rfl (by decide) (XS.aload X66.here hx rfl (hb hby at_423) rfl rfl (XS.aload X66.here hx rfl (hb hby at_425) rfl rfl (XS.iload X66.here hx rfl (hb hby at_427) rfl (XS.bipush X66.here hx rfl (hb hby at_429) k_))))) ?_
    show own_Go p e below T66 (mkF m 431 #[.val (.int p0), .val (.int p1), .val (.int p2), .val (.int p3), .val (.int r_1), .val (.int r_2), .val (.int r_3), .val (.ref y_4), .val (.ref y_9), .val (.ref y_14), .val (.ref y_39), .val (.ref b44), .val (.int kk)] [(.int (9 : Int32)), (.int kk), (.ref b44), (.ref y_39)]) _
    obtain ⟨_, _, ⟨T67, L67, k67, n67⟩, -, X67, ⟨Lc67, hQ67, l67, y67, z67⟩, st67⟩ := Jvm.LawKit.callS X66 hx (y := (⟨"com/example/beanharness/beanharness/FindingToStringPinLaw", "at", "(Ljava/lang/String;[CII)Z"⟩ : MethodName)) hown (mvT hZ (own_w hw 174 rfl)) (mvT hZ (own_w hw 175 rfl)) (mvT hZ (own_w hw 6 rfl)) (mvT hZ (own_w hw 176 rfl)) (by decide) (backOf (W := 0) (rmAt l Z a0 hw [] y_39 b_39 kb_39 b44 k44 kk ((9 : Int32)) 9 ((own_all cs0 cs1 cs2)) pd zc fm hj47 n0 f57 f51 f52 f53 f54 jV hpA lB jk rfl pS_COMPACT_STRINGS pP5 pS_SIOOBE_FORMATTER rfm f55) hZ (own_w hw 176 rfl) (own_w hw 6 rfl) (by decide) (by decide)) (g := (mkF m 431 #[.val (.int p0), .val (.int p1), .val (.int p2), .val (.int p3), .val (.int r_1), .val (.int r_2), .val (.int r_3), .val (.ref y_4), .val (.ref y_9), .val (.ref y_14), .val (.ref y_39), .val (.ref b44), .val (.int kk)] [(.int (9 : Int32)), (.int kk), (.ref b44), (.ref y_39)])) rfl (by rw [hml]; rfl) (argsL := [(.ref y_39), (.ref b44), (.int kk), (.int (9 : Int32))]) (rest := []) (lenOf pd__Ljava_lang_String__CII_Z rfl) rfl (by show 2 * 0 + _ ≤ _; exact Nat.le_of_eq rfl) (hb hby at_431) (fun _ _ => ⟨rfl, eH66, (by decide : 28 + 0 ≤ _), (by decide : 118 + 0 ≤ _)⟩)
    dsimp only [Pt.U, Pt.locs, Pt.cells, Pt.slots] at X67 l67 y67 z67 st67 hQ67
    try dsimp only [Nat.reduceAdd] at y67 z67
    rw [l67, y67, z67] at X67
    obtain ⟨rfl, Nq67, eH67⟩ := hQ67
    have N67 := Fr.app N66 Nq67
    refine own_st st67 ?_
    show own_Go p e below T67 (mkF m 434 #[.val (.int p0), .val (.int p1), .val (.int p2), .val (.int p3), .val (.int r_1), .val (.int r_2), .val (.int r_3), .val (.ref y_4), .val (.ref y_9), .val (.ref y_14), .val (.ref y_39), .val (.ref b44), .val (.int kk)] [(.int (1 : Int32))]) _
    refine own_st (fun t_ k_ => XS.ifNo X67.here hx rfl (hb hby at_434) rfl (by decide) (XS.aload X67.here hx rfl (hb hby at_437) rfl rfl (XS.aload X67.here hx rfl (hb hby at_439) rfl rfl (XS.iload X67.here hx rfl (hb hby at_441) rfl (XS.bipush X67.here hx rfl (hb hby at_443) k_))))) ?_
    show own_Go p e below T67 (mkF m 445 #[.val (.int p0), .val (.int p1), .val (.int p2), .val (.int p3), .val (.int r_1), .val (.int r_2), .val (.int r_3), .val (.ref y_4), .val (.ref y_9), .val (.ref y_14), .val (.ref y_39), .val (.ref b44), .val (.int kk)] [(.int (10 : Int32)), (.int kk), (.ref b44), (.ref y_39)]) _
    obtain ⟨_, _, ⟨T68, L68, k68, n68⟩, -, X68, ⟨Lc68, hQ68, l68, y68, z68⟩, st68⟩ := Jvm.LawKit.callS X67 hx (y := (⟨"com/example/beanharness/beanharness/FindingToStringPinLaw", "at", "(Ljava/lang/String;[CII)Z"⟩ : MethodName)) hown (mvT hZ (own_w hw 174 rfl)) (mvT hZ (own_w hw 175 rfl)) (mvT hZ (own_w hw 6 rfl)) (mvT hZ (own_w hw 176 rfl)) (by decide) (backOf (W := 0) (rmAt l Z a0 hw [] y_39 b_39 kb_39 b44 k44 kk ((10 : Int32)) 10 ((own_all cs0 cs1 cs2)) pd zc fm hj47 n0 f57 f51 f52 f53 f54 jV hpA lB jk rfl pS_COMPACT_STRINGS pP5 pS_SIOOBE_FORMATTER rfm f55) hZ (own_w hw 176 rfl) (own_w hw 6 rfl) (by decide) (by decide)) (g := (mkF m 445 #[.val (.int p0), .val (.int p1), .val (.int p2), .val (.int p3), .val (.int r_1), .val (.int r_2), .val (.int r_3), .val (.ref y_4), .val (.ref y_9), .val (.ref y_14), .val (.ref y_39), .val (.ref b44), .val (.int kk)] [(.int (10 : Int32)), (.int kk), (.ref b44), (.ref y_39)])) rfl (by rw [hml]; rfl) (argsL := [(.ref y_39), (.ref b44), (.int kk), (.int (10 : Int32))]) (rest := []) (lenOf pd__Ljava_lang_String__CII_Z rfl) rfl (by show 2 * 0 + _ ≤ _; exact Nat.le_of_eq rfl) (hb hby at_445) (fun _ _ => ⟨rfl, eH67, (by decide : 28 + 0 ≤ _), (by decide : 118 + 0 ≤ _)⟩)
    dsimp only [Pt.U, Pt.locs, Pt.cells, Pt.slots] at X68 l68 y68 z68 st68 hQ68
    try dsimp only [Nat.reduceAdd] at y68 z68
    rw [l68, y68, z68] at X68
    obtain ⟨rfl, Nq68, eH68⟩ := hQ68
    have N68 := Fr.app N67 Nq68
    refine own_st st68 ?_
    show own_Go p e below T68 (mkF m 448 #[.val (.int p0), .val (.int p1), .val (.int p2), .val (.int p3), .val (.int r_1), .val (.int r_2), .val (.int r_3), .val (.ref y_4), .val (.ref y_9), .val (.ref y_14), .val (.ref y_39), .val (.ref b44), .val (.int kk)] [(.int (1 : Int32))]) _
    refine own_st (fun t_ k_ => XS.ifNo X68.here hx rfl (hb hby at_448) rfl (by decide) (XS.iconst X68.here hx rfl (hb hby at_451) (XS.goto X68.here hx rfl (pc0 := 452) (pc' := 456) rfl (hb hby at_452) (by decide) (by decide) k_))) ?_
    show own_Go p e below T68 (mkF m 456 #[.val (.int p0), .val (.int p1), .val (.int p2), .val (.int p3), .val (.int r_1), .val (.int r_2), .val (.int r_3), .val (.ref y_4), .val (.ref y_9), .val (.ref y_14), .val (.ref y_39), .val (.ref b44), .val (.int kk)] [(.int (1 : Int32))]) _
    have f69 := (Nat.le_trans (Nat.le_trans hK39 E44.1) Kj47.1)
    obtain ⟨fs, hr, hrun, hended, hRW⟩ := X68.leaveW hS (by rw [eH68]; exact f69) (v := some (.int (1 : Int32))) (fun h => by rw [Bd.returns] at h; cases h)
    have hCend : CHr Z own_EL s.vm s.heap T68.vm T68.heap := by
      rw [hh, eH68]
      exact CHr.trans CR48 (CHv.at X68 hZ hEL CH48)
    refine own_fin (retN X68 hx (t := .boolean) Bd.returns (by simp) (hb hby at_456) hr) (hKK _ _ ⟨hrun, hended, _, _, rfl, ?_, hCend, hRW.1, hRW.2.1, hRW.2.2.1, hRW.2.2.2.mono (by decide) (by decide)⟩)
    show Q_rmLaw Z p0 p1 p2 p3 zc fm h0 n0 _ T68.heap _
    rw [eH68]
    exact ⟨rfl, N68, K49⟩
  refine own_st (fun t_ k_ => XS.iload X44.here hx rfl (hb hby at_82) rfl k_) ?_
  show own_Go p e below T44 (mkF m 84 #[.val (.int p0), .val (.int p1), .val (.int p2), .val (.int p3), .val (.int r_1), .val (.int r_2), .val (.int r_3), .val (.ref y_4), .val (.ref y_9), .val (.ref y_14), .val (.ref y_39), .val (.ref b44), .val (.int (0 : Int32))] [(.int r_1)]) _
  rcases hM0 with hA0 | hA0 | hA0
  · skip
    refine own_st (fun t_ k_ => XS.ifYes X44.here hx rfl (pc0 := 84) (pc' := 104) rfl (hb hby at_84) rfl ((if0 _ _).trans (flt (show ¬ ((0 : Int32) < r_1) from (by rw [hA0.1] <;> decide))).2.2.2) (by decide) (by decide) (XS.iload X44.here hx rfl (hb hby at_104) rfl (XS.iconst X44.here hx rfl (hb hby at_106) (XS.icmpYes X44.here hx rfl (pc0 := 107) (pc' := 130) rfl (hb hby at_107) rfl (flt (show ¬ ((1 : Int32) < r_1) from (by rw [hA0.1] <;> decide))).2.2.2 (by decide) (by decide) (XS.aload X44.here hx rfl (hb hby at_130) rfl rfl (XS.iload X44.here hx rfl (hb hby at_132) rfl (XS.bipush X44.here hx rfl (hb hby at_134) k_))))))) ?_
    show own_Go p e below T44 (mkF m 136 #[.val (.int p0), .val (.int p1), .val (.int p2), .val (.int p3), .val (.int r_1), .val (.int r_2), .val (.int r_3), .val (.ref y_4), .val (.ref y_9), .val (.ref y_14), .val (.ref y_39), .val (.ref b44), .val (.int (0 : Int32))] [(.int (32 : Int32)), (.int (0 : Int32)), (.ref b44)]) _
    obtain ⟨cl70, Ar70, q70, Sz70, Nn70, Hh70, Gg70⟩ := id V44
    have hin70 : ¬ ((0 : Int32) < 0 ∨ cl70.slots.size ≤ ((0 : Int32)).toNatClampNeg) := inb_of Sz70 ⟨by decide, by decide⟩
    obtain ⟨T71, h71, X71, e71, W71, st71⟩ := stC X44 hx hZ e44 Ar70 (j := (0 : Int32)) hin70 (g := (mkF m 136 #[.val (.int p0), .val (.int p1), .val (.int p2), .val (.int p3), .val (.int r_1), .val (.int r_2), .val (.int r_3), .val (.ref y_4), .val (.ref y_9), .val (.ref y_14), .val (.ref y_39), .val (.ref b44), .val (.int (0 : Int32))] [(.int (32 : Int32)), (.int (0 : Int32)), (.ref b44)])) rfl rfl (hb hby at_136)
    have V71 : Arv Z h71 b44 k44 .char (11 : Int32) [(.int (nar .char (32 : Int32))), (.int (0 : Int32)), (.int (0 : Int32)), (.int (0 : Int32)), (.int (0 : Int32)), (.int (0 : Int32)), (.int (0 : Int32)), (.int (0 : Int32)), (.int (0 : Int32)), (.int (0 : Int32)), (.int (0 : Int32))] (.int (0 : Int32)) := Arv.set Ar70 q70 Sz70 Nn70 Hh70 Gg70 (fits_nar_char _) W71 0 rfl (Nat.le_of_ble_eq_true rfl)
    rw [(show nar .char (32 : Int32) = (32 : Int32) from rfl)] at V71
    have Sa72 : Safe Z own_EL T39.vm h44 b44 := (Safe.arv hZ.alike V44 (by decide))
    have CH72 := CH45.wr W71 Sa72
    have CR72 := CHr.trans CR45 (CHr.wr W71 Sa72 CH45)
    have K73 : Keep h0 h71 [] := K46.wr W71 (Or.inr B44)
    have N71 := Fr.snoc X71 N39 G44
    refine own_st st71 ?_
    show own_Go p e below T71 (mkF m 137 #[.val (.int p0), .val (.int p1), .val (.int p2), .val (.int p3), .val (.int r_1), .val (.int r_2), .val (.int r_3), .val (.ref y_4), .val (.ref y_9), .val (.ref y_14), .val (.ref y_39), .val (.ref b44), .val (.int (0 : Int32))] []) _
    refine own_st (fun t_ k_ => XS.iload X71.here hx rfl (hb hby at_137) rfl (XS.iconst X71.here hx rfl (hb hby at_139) (XS.iadd X71.here hx rfl (hb hby at_140) rfl (XS.istore X71.here hx rfl (hb hby at_141) rfl (l' := #[.val (.int p0), .val (.int p1), .val (.int p2), .val (.int p3), .val (.int r_1), .val (.int r_2), .val (.int r_3), .val (.ref y_4), .val (.ref y_9), .val (.ref y_14), .val (.ref y_39), .val (.ref b44), .val (.int (1 : Int32))]) rfl (XS.aload X71.here hx rfl (hb hby at_143) rfl rfl (XS.iload X71.here hx rfl (hb hby at_145) rfl (XS.bipush X71.here hx rfl (hb hby at_147) k_))))))) ?_
    show own_Go p e below T71 (mkF m 149 #[.val (.int p0), .val (.int p1), .val (.int p2), .val (.int p3), .val (.int r_1), .val (.int r_2), .val (.int r_3), .val (.ref y_4), .val (.ref y_9), .val (.ref y_14), .val (.ref y_39), .val (.ref b44), .val (.int (1 : Int32))] [(.int (91 : Int32)), (.int (1 : Int32)), (.ref b44)]) _
    obtain ⟨cl74, Ar74, q74, Sz74, Nn74, Hh74, Gg74⟩ := id V71
    have hin74 : ¬ ((1 : Int32) < 0 ∨ cl74.slots.size ≤ ((1 : Int32)).toNatClampNeg) := inb_of Sz74 ⟨by decide, by decide⟩
    obtain ⟨T75, h75, X75, e75, W75, st75⟩ := stC X71 hx hZ e71 Ar74 (j := (1 : Int32)) hin74 (g := (mkF m 149 #[.val (.int p0), .val (.int p1), .val (.int p2), .val (.int p3), .val (.int r_1), .val (.int r_2), .val (.int r_3), .val (.ref y_4), .val (.ref y_9), .val (.ref y_14), .val (.ref y_39), .val (.ref b44), .val (.int (1 : Int32))] [(.int (91 : Int32)), (.int (1 : Int32)), (.ref b44)])) rfl rfl (hb hby at_149)
    have V75 : Arv Z h75 b44 k44 .char (11 : Int32) [(.int (32 : Int32)), (.int (nar .char (91 : Int32))), (.int (0 : Int32)), (.int (0 : Int32)), (.int (0 : Int32)), (.int (0 : Int32)), (.int (0 : Int32)), (.int (0 : Int32)), (.int (0 : Int32)), (.int (0 : Int32)), (.int (0 : Int32))] (.int (0 : Int32)) := Arv.set Ar74 q74 Sz74 Nn74 Hh74 Gg74 (fits_nar_char _) W75 1 rfl (Nat.le_of_ble_eq_true rfl)
    rw [(show nar .char (91 : Int32) = (91 : Int32) from rfl)] at V75
    have Sa76 : Safe Z own_EL T39.vm h71 b44 := (Safe.arv hZ.alike V71 (by decide))
    have CH76 := CH72.wr W75 Sa76
    have CR76 := CHr.trans CR72 (CHr.wr W75 Sa76 CH72)
    have K77 : Keep h0 h75 [] := K73.wr W75 (Or.inr B44)
    have N75 := Fr.snoc X75 N71 G44
    refine own_st st75 ?_
    show own_Go p e below T75 (mkF m 150 #[.val (.int p0), .val (.int p1), .val (.int p2), .val (.int p3), .val (.int r_1), .val (.int r_2), .val (.int r_3), .val (.ref y_4), .val (.ref y_9), .val (.ref y_14), .val (.ref y_39), .val (.ref b44), .val (.int (1 : Int32))] []) _
    refine own_st (fun t_ k_ => XS.iload X75.here hx rfl (hb hby at_150) rfl (XS.iconst X75.here hx rfl (hb hby at_152) (XS.iadd X75.here hx rfl (hb hby at_153) rfl (XS.istore X75.here hx rfl (hb hby at_154) rfl (l' := #[.val (.int p0), .val (.int p1), .val (.int p2), .val (.int p3), .val (.int r_1), .val (.int r_2), .val (.int r_3), .val (.ref y_4), .val (.ref y_9), .val (.ref y_14), .val (.ref y_39), .val (.ref b44), .val (.int (2 : Int32))]) rfl (XS.iload X75.here hx rfl (hb hby at_156) rfl k_))))) ?_
    show own_Go p e below T75 (mkF m 158 #[.val (.int p0), .val (.int p1), .val (.int p2), .val (.int p3), .val (.int r_1), .val (.int r_2), .val (.int r_3), .val (.ref y_4), .val (.ref y_9), .val (.ref y_14), .val (.ref y_39), .val (.ref b44), .val (.int (2 : Int32))] [(.int r_2)]) _
    rcases hM1 with hA1 | hA1 | hA1
    · skip
      refine own_st (fun t_ k_ => XS.ifYes X75.here hx rfl (pc0 := 158) (pc' := 178) rfl (hb hby at_158) rfl ((if0 _ _).trans (flt (show ¬ ((0 : Int32) < r_2) from (by rw [hA1.1] <;> decide))).2.2.2) (by decide) (by decide) (XS.iload X75.here hx rfl (hb hby at_178) rfl (XS.iconst X75.here hx rfl (hb hby at_180) (XS.icmpYes X75.here hx rfl (pc0 := 181) (pc' := 204) rfl (hb hby at_181) rfl (flt (show ¬ ((1 : Int32) < r_2) from (by rw [hA1.1] <;> decide))).2.2.2 (by decide) (by decide) (XS.aload X75.here hx rfl (hb hby at_204) rfl rfl (XS.iload X75.here hx rfl (hb hby at_206) rfl (XS.bipush X75.here hx rfl (hb hby at_208) k_))))))) ?_
      show own_Go p e below T75 (mkF m 210 #[.val (.int p0), .val (.int p1), .val (.int p2), .val (.int p3), .val (.int r_1), .val (.int r_2), .val (.int r_3), .val (.ref y_4), .val (.ref y_9), .val (.ref y_14), .val (.ref y_39), .val (.ref b44), .val (.int (2 : Int32))] [(.int (93 : Int32)), (.int (2 : Int32)), (.ref b44)]) _
      obtain ⟨cl78, Ar78, q78, Sz78, Nn78, Hh78, Gg78⟩ := id V75
      have hin78 : ¬ ((2 : Int32) < 0 ∨ cl78.slots.size ≤ ((2 : Int32)).toNatClampNeg) := inb_of Sz78 ⟨by decide, by decide⟩
      obtain ⟨T79, h79, X79, e79, W79, st79⟩ := stC X75 hx hZ e75 Ar78 (j := (2 : Int32)) hin78 (g := (mkF m 210 #[.val (.int p0), .val (.int p1), .val (.int p2), .val (.int p3), .val (.int r_1), .val (.int r_2), .val (.int r_3), .val (.ref y_4), .val (.ref y_9), .val (.ref y_14), .val (.ref y_39), .val (.ref b44), .val (.int (2 : Int32))] [(.int (93 : Int32)), (.int (2 : Int32)), (.ref b44)])) rfl rfl (hb hby at_210)
      have V79 : Arv Z h79 b44 k44 .char (11 : Int32) [(.int (32 : Int32)), (.int (91 : Int32)), (.int (nar .char (93 : Int32))), (.int (0 : Int32)), (.int (0 : Int32)), (.int (0 : Int32)), (.int (0 : Int32)), (.int (0 : Int32)), (.int (0 : Int32)), (.int (0 : Int32)), (.int (0 : Int32))] (.int (0 : Int32)) := Arv.set Ar78 q78 Sz78 Nn78 Hh78 Gg78 (fits_nar_char _) W79 2 rfl (Nat.le_of_ble_eq_true rfl)
      rw [(show nar .char (93 : Int32) = (93 : Int32) from rfl)] at V79
      have Sa80 : Safe Z own_EL T39.vm h75 b44 := (Safe.arv hZ.alike V75 (by decide))
      have CH80 := CH76.wr W79 Sa80
      have CR80 := CHr.trans CR76 (CHr.wr W79 Sa80 CH76)
      have K81 : Keep h0 h79 [] := K77.wr W79 (Or.inr B44)
      have N79 := Fr.snoc X79 N75 G44
      refine own_st st79 ?_
      show own_Go p e below T79 (mkF m 211 #[.val (.int p0), .val (.int p1), .val (.int p2), .val (.int p3), .val (.int r_1), .val (.int r_2), .val (.int r_3), .val (.ref y_4), .val (.ref y_9), .val (.ref y_14), .val (.ref y_39), .val (.ref b44), .val (.int (2 : Int32))] []) _
      refine own_st (fun t_ k_ => XS.iload X79.here hx rfl (hb hby at_211) rfl (XS.iconst X79.here hx rfl (hb hby at_213) (XS.iadd X79.here hx rfl (hb hby at_214) rfl (XS.istore X79.here hx rfl (hb hby at_215) rfl (l' := #[.val (.int p0), .val (.int p1), .val (.int p2), .val (.int p3), .val (.int r_1), .val (.int r_2), .val (.int r_3), .val (.ref y_4), .val (.ref y_9), .val (.ref y_14), .val (.ref y_39), .val (.ref b44), .val (.int (3 : Int32))]) rfl (XS.aload X79.here hx rfl (hb hby at_217) rfl rfl (XS.iload X79.here hx rfl (hb hby at_219) rfl (XS.bipush X79.here hx rfl (hb hby at_221) k_))))))) ?_
      show own_Go p e below T79 (mkF m 223 #[.val (.int p0), .val (.int p1), .val (.int p2), .val (.int p3), .val (.int r_1), .val (.int r_2), .val (.int r_3), .val (.ref y_4), .val (.ref y_9), .val (.ref y_14), .val (.ref y_39), .val (.ref b44), .val (.int (3 : Int32))] [(.int (58 : Int32)), (.int (3 : Int32)), (.ref b44)]) _
      obtain ⟨cl82, Ar82, q82, Sz82, Nn82, Hh82, Gg82⟩ := id V79
      have hin82 : ¬ ((3 : Int32) < 0 ∨ cl82.slots.size ≤ ((3 : Int32)).toNatClampNeg) := inb_of Sz82 ⟨by decide, by decide⟩
      obtain ⟨T83, h83, X83, e83, W83, st83⟩ := stC X79 hx hZ e79 Ar82 (j := (3 : Int32)) hin82 (g := (mkF m 223 #[.val (.int p0), .val (.int p1), .val (.int p2), .val (.int p3), .val (.int r_1), .val (.int r_2), .val (.int r_3), .val (.ref y_4), .val (.ref y_9), .val (.ref y_14), .val (.ref y_39), .val (.ref b44), .val (.int (3 : Int32))] [(.int (58 : Int32)), (.int (3 : Int32)), (.ref b44)])) rfl rfl (hb hby at_223)
      have V83 : Arv Z h83 b44 k44 .char (11 : Int32) [(.int (32 : Int32)), (.int (91 : Int32)), (.int (93 : Int32)), (.int (nar .char (58 : Int32))), (.int (0 : Int32)), (.int (0 : Int32)), (.int (0 : Int32)), (.int (0 : Int32)), (.int (0 : Int32)), (.int (0 : Int32)), (.int (0 : Int32))] (.int (0 : Int32)) := Arv.set Ar82 q82 Sz82 Nn82 Hh82 Gg82 (fits_nar_char _) W83 3 rfl (Nat.le_of_ble_eq_true rfl)
      rw [(show nar .char (58 : Int32) = (58 : Int32) from rfl)] at V83
      have Sa84 : Safe Z own_EL T39.vm h79 b44 := (Safe.arv hZ.alike V79 (by decide))
      have CH84 := CH80.wr W83 Sa84
      have CR84 := CHr.trans CR80 (CHr.wr W83 Sa84 CH80)
      have K85 : Keep h0 h83 [] := K81.wr W83 (Or.inr B44)
      have N83 := Fr.snoc X83 N79 G44
      refine own_st st83 ?_
      show own_Go p e below T83 (mkF m 224 #[.val (.int p0), .val (.int p1), .val (.int p2), .val (.int p3), .val (.int r_1), .val (.int r_2), .val (.int r_3), .val (.ref y_4), .val (.ref y_9), .val (.ref y_14), .val (.ref y_39), .val (.ref b44), .val (.int (3 : Int32))] []) _
      refine own_st (fun t_ k_ => XS.iload X83.here hx rfl (hb hby at_224) rfl (XS.iconst X83.here hx rfl (hb hby at_226) (XS.iadd X83.here hx rfl (hb hby at_227) rfl (XS.istore X83.here hx rfl (hb hby at_228) rfl (l' := #[.val (.int p0), .val (.int p1), .val (.int p2), .val (.int p3), .val (.int r_1), .val (.int r_2), .val (.int r_3), .val (.ref y_4), .val (.ref y_9), .val (.ref y_14), .val (.ref y_39), .val (.ref b44), .val (.int (4 : Int32))]) rfl (XS.aload X83.here hx rfl (hb hby at_230) rfl rfl (XS.iload X83.here hx rfl (hb hby at_232) rfl (XS.bipush X83.here hx rfl (hb hby at_234) k_))))))) ?_
      show own_Go p e below T83 (mkF m 236 #[.val (.int p0), .val (.int p1), .val (.int p2), .val (.int p3), .val (.int r_1), .val (.int r_2), .val (.int r_3), .val (.ref y_4), .val (.ref y_9), .val (.ref y_14), .val (.ref y_39), .val (.ref b44), .val (.int (4 : Int32))] [(.int (32 : Int32)), (.int (4 : Int32)), (.ref b44)]) _
      obtain ⟨cl86, Ar86, q86, Sz86, Nn86, Hh86, Gg86⟩ := id V83
      have hin86 : ¬ ((4 : Int32) < 0 ∨ cl86.slots.size ≤ ((4 : Int32)).toNatClampNeg) := inb_of Sz86 ⟨by decide, by decide⟩
      obtain ⟨T87, h87, X87, e87, W87, st87⟩ := stC X83 hx hZ e83 Ar86 (j := (4 : Int32)) hin86 (g := (mkF m 236 #[.val (.int p0), .val (.int p1), .val (.int p2), .val (.int p3), .val (.int r_1), .val (.int r_2), .val (.int r_3), .val (.ref y_4), .val (.ref y_9), .val (.ref y_14), .val (.ref y_39), .val (.ref b44), .val (.int (4 : Int32))] [(.int (32 : Int32)), (.int (4 : Int32)), (.ref b44)])) rfl rfl (hb hby at_236)
      have V87 : Arv Z h87 b44 k44 .char (11 : Int32) [(.int (32 : Int32)), (.int (91 : Int32)), (.int (93 : Int32)), (.int (58 : Int32)), (.int (nar .char (32 : Int32))), (.int (0 : Int32)), (.int (0 : Int32)), (.int (0 : Int32)), (.int (0 : Int32)), (.int (0 : Int32)), (.int (0 : Int32))] (.int (0 : Int32)) := Arv.set Ar86 q86 Sz86 Nn86 Hh86 Gg86 (fits_nar_char _) W87 4 rfl (Nat.le_of_ble_eq_true rfl)
      rw [(show nar .char (32 : Int32) = (32 : Int32) from rfl)] at V87
      have Sa88 : Safe Z own_EL T39.vm h83 b44 := (Safe.arv hZ.alike V83 (by decide))
      have CH88 := CH84.wr W87 Sa88
      have CR88 := CHr.trans CR84 (CHr.wr W87 Sa88 CH84)
      have K89 : Keep h0 h87 [] := K85.wr W87 (Or.inr B44)
      have N87 := Fr.snoc X87 N83 G44
      refine own_st st87 ?_
      show own_Go p e below T87 (mkF m 237 #[.val (.int p0), .val (.int p1), .val (.int p2), .val (.int p3), .val (.int r_1), .val (.int r_2), .val (.int r_3), .val (.ref y_4), .val (.ref y_9), .val (.ref y_14), .val (.ref y_39), .val (.ref b44), .val (.int (4 : Int32))] []) _
      refine own_st (fun t_ k_ => XS.iload X87.here hx rfl (hb hby at_237) rfl (XS.iconst X87.here hx rfl (hb hby at_239) (XS.iadd X87.here hx rfl (hb hby at_240) rfl (XS.istore X87.here hx rfl (hb hby at_241) rfl (l' := #[.val (.int p0), .val (.int p1), .val (.int p2), .val (.int p3), .val (.int r_1), .val (.int r_2), .val (.int r_3), .val (.ref y_4), .val (.ref y_9), .val (.ref y_14), .val (.ref y_39), .val (.ref b44), .val (.int (5 : Int32))]) rfl (XS.iload X87.here hx rfl (hb hby at_243) rfl k_))))) ?_
      show own_Go p e below T87 (mkF m 245 #[.val (.int p0), .val (.int p1), .val (.int p2), .val (.int p3), .val (.int r_1), .val (.int r_2), .val (.int r_3), .val (.ref y_4), .val (.ref y_9), .val (.ref y_14), .val (.ref y_39), .val (.ref b44), .val (.int (5 : Int32))] [(.int r_3)]) _
      rcases hM2 with hA2 | hA2 | hA2
      · skip
        refine own_st (fun t_ k_ => XS.ifYes X87.here hx rfl (pc0 := 245) (pc' := 265) rfl (hb hby at_245) rfl ((if0 _ _).trans (flt (show ¬ ((0 : Int32) < r_3) from (by rw [hA2.1] <;> decide))).2.2.2) (by decide) (by decide) (XS.iload X87.here hx rfl (hb hby at_265) rfl (XS.iconst X87.here hx rfl (hb hby at_267) (XS.icmpYes X87.here hx rfl (pc0 := 268) (pc' := 291) rfl (hb hby at_268) rfl (flt (show ¬ ((1 : Int32) < r_3) from (by rw [hA2.1] <;> decide))).2.2.2 (by decide) (by decide) k_)))) ?_
        show own_Go p e below T87 (mkF m 291 #[.val (.int p0), .val (.int p1), .val (.int p2), .val (.int p3), .val (.int r_1), .val (.int r_2), .val (.int r_3), .val (.ref y_4), .val (.ref y_9), .val (.ref y_14), .val (.ref y_39), .val (.ref b44), .val (.int (5 : Int32))] []) _
        exact tail47 _ _ _ (5 : Int32) [(.int (0 : Int32)), (.int (0 : Int32)), (.int (0 : Int32)), (.int (0 : Int32)), (.int (0 : Int32)), (.int (0 : Int32))] X87 e87 N87 ((((((Keep.refl h44 [b44]).wr W71 (Or.inl (List.mem_of_getElem? (i := 0) rfl))).wr W75 (Or.inl (List.mem_of_getElem? (i := 0) rfl))).wr W79 (Or.inl (List.mem_of_getElem? (i := 0) rfl))).wr W83 (Or.inl (List.mem_of_getElem? (i := 0) rfl))).wr W87 (Or.inl (List.mem_of_getElem? (i := 0) rfl))) (by rw [hA0.2, hA1.2, hA2.2]; exact V87) (by rw [hA0.2, hA1.2, hA2.2]; rfl)
      · skip
        refine own_st (fun t_ k_ => XS.ifNo X87.here hx rfl (hb hby at_245) rfl ((if0 _ _).trans (tlt (show (0 : Int32) < r_3 from (by rw [hA2.1] <;> decide))).2.2.2) (XS.aload X87.here hx rfl (hb hby at_248) rfl rfl (XS.iload X87.here hx rfl (hb hby at_250) rfl (XS.iloadN X87.here hx rfl (hb hby at_252) rfl (XS.sipush X87.here hx rfl (hb hby at_253) (XS.iand X87.here hx rfl (hb hby at_256) rfl (XS.i2c X87.here hx rfl (hb hby at_257) rfl k_))))))) ?_
        show own_Go p e below T87 (mkF m 258 #[.val (.int p0), .val (.int p1), .val (.int p2), .val (.int p3), .val (.int r_1), .val (.int r_2), .val (.int r_3), .val (.ref y_4), .val (.ref y_9), .val (.ref y_14), .val (.ref y_39), .val (.ref b44), .val (.int (5 : Int32))] [(.int ((p2 &&& (255 : Int32)).toUInt32.toUInt16.toUInt32.toInt32)), (.int (5 : Int32)), (.ref b44)]) _
        rw [own_i255 (own_m255 p2).1 (own_m255 p2).2]
        show own_Go p e below T87 (mkF m 258 #[.val (.int p0), .val (.int p1), .val (.int p2), .val (.int p3), .val (.int r_1), .val (.int r_2), .val (.int r_3), .val (.ref y_4), .val (.ref y_9), .val (.ref y_14), .val (.ref y_39), .val (.ref b44), .val (.int (5 : Int32))] [(.int (p2 &&& (255 : Int32))), (.int (5 : Int32)), (.ref b44)]) _
        obtain ⟨cl90, Ar90, q90, Sz90, Nn90, Hh90, Gg90⟩ := id V87
        have hin90 : ¬ ((5 : Int32) < 0 ∨ cl90.slots.size ≤ ((5 : Int32)).toNatClampNeg) := inb_of Sz90 ⟨by decide, by decide⟩
        obtain ⟨T91, h91, X91, e91, W91, st91⟩ := stC X87 hx hZ e87 Ar90 (j := (5 : Int32)) hin90 (g := (mkF m 258 #[.val (.int p0), .val (.int p1), .val (.int p2), .val (.int p3), .val (.int r_1), .val (.int r_2), .val (.int r_3), .val (.ref y_4), .val (.ref y_9), .val (.ref y_14), .val (.ref y_39), .val (.ref b44), .val (.int (5 : Int32))] [(.int (p2 &&& (255 : Int32))), (.int (5 : Int32)), (.ref b44)])) rfl rfl (hb hby at_258)
        have V91 : Arv Z h91 b44 k44 .char (11 : Int32) [(.int (32 : Int32)), (.int (91 : Int32)), (.int (93 : Int32)), (.int (58 : Int32)), (.int (32 : Int32)), (.int (nar .char (p2 &&& (255 : Int32)))), (.int (0 : Int32)), (.int (0 : Int32)), (.int (0 : Int32)), (.int (0 : Int32)), (.int (0 : Int32))] (.int (0 : Int32)) := Arv.set Ar90 q90 Sz90 Nn90 Hh90 Gg90 (fits_nar_char _) W91 5 rfl (Nat.le_of_ble_eq_true rfl)
        rw [own_nar (own_w255 p2)] at V91
        have Sa92 : Safe Z own_EL T39.vm h87 b44 := (Safe.arv hZ.alike V87 (by decide))
        have CH92 := CH88.wr W91 Sa92
        have CR92 := CHr.trans CR88 (CHr.wr W91 Sa92 CH88)
        have K93 : Keep h0 h91 [] := K89.wr W91 (Or.inr B44)
        have N91 := Fr.snoc X91 N87 G44
        refine own_st st91 ?_
        show own_Go p e below T91 (mkF m 259 #[.val (.int p0), .val (.int p1), .val (.int p2), .val (.int p3), .val (.int r_1), .val (.int r_2), .val (.int r_3), .val (.ref y_4), .val (.ref y_9), .val (.ref y_14), .val (.ref y_39), .val (.ref b44), .val (.int (5 : Int32))] []) _
        refine own_st (fun t_ k_ => XS.iload X91.here hx rfl (hb hby at_259) rfl (XS.iconst X91.here hx rfl (hb hby at_261) (XS.iadd X91.here hx rfl (hb hby at_262) rfl (XS.istore X91.here hx rfl (hb hby at_263) rfl (l' := #[.val (.int p0), .val (.int p1), .val (.int p2), .val (.int p3), .val (.int r_1), .val (.int r_2), .val (.int r_3), .val (.ref y_4), .val (.ref y_9), .val (.ref y_14), .val (.ref y_39), .val (.ref b44), .val (.int (6 : Int32))]) rfl (XS.iload X91.here hx rfl (hb hby at_265) rfl (XS.iconst X91.here hx rfl (hb hby at_267) (XS.icmpYes X91.here hx rfl (pc0 := 268) (pc' := 291) rfl (hb hby at_268) rfl (flt (show ¬ ((1 : Int32) < r_3) from (by rw [hA2.1] <;> decide))).2.2.2 (by decide) (by decide) k_))))))) ?_
        show own_Go p e below T91 (mkF m 291 #[.val (.int p0), .val (.int p1), .val (.int p2), .val (.int p3), .val (.int r_1), .val (.int r_2), .val (.int r_3), .val (.ref y_4), .val (.ref y_9), .val (.ref y_14), .val (.ref y_39), .val (.ref b44), .val (.int (6 : Int32))] []) _
        exact tail47 _ _ _ (6 : Int32) [(.int (0 : Int32)), (.int (0 : Int32)), (.int (0 : Int32)), (.int (0 : Int32)), (.int (0 : Int32))] X91 e91 N91 (((((((Keep.refl h44 [b44]).wr W71 (Or.inl (List.mem_of_getElem? (i := 0) rfl))).wr W75 (Or.inl (List.mem_of_getElem? (i := 0) rfl))).wr W79 (Or.inl (List.mem_of_getElem? (i := 0) rfl))).wr W83 (Or.inl (List.mem_of_getElem? (i := 0) rfl))).wr W87 (Or.inl (List.mem_of_getElem? (i := 0) rfl))).wr W91 (Or.inl (List.mem_of_getElem? (i := 0) rfl))) (by rw [hA0.2, hA1.2, hA2.2]; exact V91) (by rw [hA0.2, hA1.2, hA2.2]; rfl)
      · skip
        refine own_st (fun t_ k_ => XS.ifNo X87.here hx rfl (hb hby at_245) rfl ((if0 _ _).trans (tlt (show (0 : Int32) < r_3 from (by rw [hA2.1] <;> decide))).2.2.2) (XS.aload X87.here hx rfl (hb hby at_248) rfl rfl (XS.iload X87.here hx rfl (hb hby at_250) rfl (XS.iloadN X87.here hx rfl (hb hby at_252) rfl (XS.sipush X87.here hx rfl (hb hby at_253) (XS.iand X87.here hx rfl (hb hby at_256) rfl (XS.i2c X87.here hx rfl (hb hby at_257) rfl k_))))))) ?_
        show own_Go p e below T87 (mkF m 258 #[.val (.int p0), .val (.int p1), .val (.int p2), .val (.int p3), .val (.int r_1), .val (.int r_2), .val (.int r_3), .val (.ref y_4), .val (.ref y_9), .val (.ref y_14), .val (.ref y_39), .val (.ref b44), .val (.int (5 : Int32))] [(.int ((p2 &&& (255 : Int32)).toUInt32.toUInt16.toUInt32.toInt32)), (.int (5 : Int32)), (.ref b44)]) _
        rw [own_i255 (own_m255 p2).1 (own_m255 p2).2]
        show own_Go p e below T87 (mkF m 258 #[.val (.int p0), .val (.int p1), .val (.int p2), .val (.int p3), .val (.int r_1), .val (.int r_2), .val (.int r_3), .val (.ref y_4), .val (.ref y_9), .val (.ref y_14), .val (.ref y_39), .val (.ref b44), .val (.int (5 : Int32))] [(.int (p2 &&& (255 : Int32))), (.int (5 : Int32)), (.ref b44)]) _
        obtain ⟨cl94, Ar94, q94, Sz94, Nn94, Hh94, Gg94⟩ := id V87
        have hin94 : ¬ ((5 : Int32) < 0 ∨ cl94.slots.size ≤ ((5 : Int32)).toNatClampNeg) := inb_of Sz94 ⟨by decide, by decide⟩
        obtain ⟨T95, h95, X95, e95, W95, st95⟩ := stC X87 hx hZ e87 Ar94 (j := (5 : Int32)) hin94 (g := (mkF m 258 #[.val (.int p0), .val (.int p1), .val (.int p2), .val (.int p3), .val (.int r_1), .val (.int r_2), .val (.int r_3), .val (.ref y_4), .val (.ref y_9), .val (.ref y_14), .val (.ref y_39), .val (.ref b44), .val (.int (5 : Int32))] [(.int (p2 &&& (255 : Int32))), (.int (5 : Int32)), (.ref b44)])) rfl rfl (hb hby at_258)
        have V95 : Arv Z h95 b44 k44 .char (11 : Int32) [(.int (32 : Int32)), (.int (91 : Int32)), (.int (93 : Int32)), (.int (58 : Int32)), (.int (32 : Int32)), (.int (nar .char (p2 &&& (255 : Int32)))), (.int (0 : Int32)), (.int (0 : Int32)), (.int (0 : Int32)), (.int (0 : Int32)), (.int (0 : Int32))] (.int (0 : Int32)) := Arv.set Ar94 q94 Sz94 Nn94 Hh94 Gg94 (fits_nar_char _) W95 5 rfl (Nat.le_of_ble_eq_true rfl)
        rw [own_nar (own_w255 p2)] at V95
        have Sa96 : Safe Z own_EL T39.vm h87 b44 := (Safe.arv hZ.alike V87 (by decide))
        have CH96 := CH88.wr W95 Sa96
        have CR96 := CHr.trans CR88 (CHr.wr W95 Sa96 CH88)
        have K97 : Keep h0 h95 [] := K89.wr W95 (Or.inr B44)
        have N95 := Fr.snoc X95 N87 G44
        refine own_st st95 ?_
        show own_Go p e below T95 (mkF m 259 #[.val (.int p0), .val (.int p1), .val (.int p2), .val (.int p3), .val (.int r_1), .val (.int r_2), .val (.int r_3), .val (.ref y_4), .val (.ref y_9), .val (.ref y_14), .val (.ref y_39), .val (.ref b44), .val (.int (5 : Int32))] []) _
        refine own_st (fun t_ k_ => XS.iload X95.here hx rfl (hb hby at_259) rfl (XS.iconst X95.here hx rfl (hb hby at_261) (XS.iadd X95.here hx rfl (hb hby at_262) rfl (XS.istore X95.here hx rfl (hb hby at_263) rfl (l' := #[.val (.int p0), .val (.int p1), .val (.int p2), .val (.int p3), .val (.int r_1), .val (.int r_2), .val (.int r_3), .val (.ref y_4), .val (.ref y_9), .val (.ref y_14), .val (.ref y_39), .val (.ref b44), .val (.int (6 : Int32))]) rfl (XS.iload X95.here hx rfl (hb hby at_265) rfl (XS.iconst X95.here hx rfl (hb hby at_267) (XS.icmpNo X95.here hx rfl (hb hby at_268) rfl (tlt (show (1 : Int32) < r_3 from (by rw [hA2.1] <;> decide))).2.2.2 (XS.aload X95.here hx rfl (hb hby at_271) rfl rfl (XS.iload X95.here hx rfl (hb hby at_273) rfl (XS.iloadN X95.here hx rfl (hb hby at_275) rfl k_)))))))))) ?_
        show own_Go p e below T95 (mkF m 276 #[.val (.int p0), .val (.int p1), .val (.int p2), .val (.int p3), .val (.int r_1), .val (.int r_2), .val (.int r_3), .val (.ref y_4), .val (.ref y_9), .val (.ref y_14), .val (.ref y_39), .val (.ref b44), .val (.int (6 : Int32))] [(.int p2), (.int (6 : Int32)), (.ref b44)]) _
        refine own_st (fun t_ k_ => XS.bipush X95.here hx rfl (hb hby at_276) (XS.iushr X95.here hx rfl (hb hby at_278) rfl (XS.sipush X95.here hx rfl (hb hby at_279) (XS.iand X95.here hx rfl (hb hby at_282) rfl (XS.i2c X95.here hx rfl (hb hby at_283) rfl k_))))) ?_
        show own_Go p e below T95 (mkF m 284 #[.val (.int p0), .val (.int p1), .val (.int p2), .val (.int p3), .val (.int r_1), .val (.int r_2), .val (.int r_3), .val (.ref y_4), .val (.ref y_9), .val (.ref y_14), .val (.ref y_39), .val (.ref b44), .val (.int (6 : Int32))] [(.int ((((p2.toUInt32 >>> ((8 : Int32) &&& 31).toUInt32).toInt32) &&& (255 : Int32)).toUInt32.toUInt16.toUInt32.toInt32)), (.int (6 : Int32)), (.ref b44)]) _
        rw [own_iu8 p2, own_i255 (own_m255 (own_hi p2)).1 (own_m255 (own_hi p2)).2]
        show own_Go p e below T95 (mkF m 284 #[.val (.int p0), .val (.int p1), .val (.int p2), .val (.int p3), .val (.int r_1), .val (.int r_2), .val (.int r_3), .val (.ref y_4), .val (.ref y_9), .val (.ref y_14), .val (.ref y_39), .val (.ref b44), .val (.int (6 : Int32))] [(.int (own_hi p2 &&& (255 : Int32))), (.int (6 : Int32)), (.ref b44)]) _
        obtain ⟨cl98, Ar98, q98, Sz98, Nn98, Hh98, Gg98⟩ := id V95
        have hin98 : ¬ ((6 : Int32) < 0 ∨ cl98.slots.size ≤ ((6 : Int32)).toNatClampNeg) := inb_of Sz98 ⟨by decide, by decide⟩
        obtain ⟨T99, h99, X99, e99, W99, st99⟩ := stC X95 hx hZ e95 Ar98 (j := (6 : Int32)) hin98 (g := (mkF m 284 #[.val (.int p0), .val (.int p1), .val (.int p2), .val (.int p3), .val (.int r_1), .val (.int r_2), .val (.int r_3), .val (.ref y_4), .val (.ref y_9), .val (.ref y_14), .val (.ref y_39), .val (.ref b44), .val (.int (6 : Int32))] [(.int (own_hi p2 &&& (255 : Int32))), (.int (6 : Int32)), (.ref b44)])) rfl rfl (hb hby at_284)
        have V99 : Arv Z h99 b44 k44 .char (11 : Int32) [(.int (32 : Int32)), (.int (91 : Int32)), (.int (93 : Int32)), (.int (58 : Int32)), (.int (32 : Int32)), (.int (p2 &&& (255 : Int32))), (.int (nar .char (own_hi p2 &&& (255 : Int32)))), (.int (0 : Int32)), (.int (0 : Int32)), (.int (0 : Int32)), (.int (0 : Int32))] (.int (0 : Int32)) := Arv.set Ar98 q98 Sz98 Nn98 Hh98 Gg98 (fits_nar_char _) W99 6 rfl (Nat.le_of_ble_eq_true rfl)
        rw [own_nar (own_w255 (own_hi p2))] at V99
        have Sa100 : Safe Z own_EL T39.vm h95 b44 := (Safe.arv hZ.alike V95 (by decide))
        have CH100 := CH96.wr W99 Sa100
        have CR100 := CHr.trans CR96 (CHr.wr W99 Sa100 CH96)
        have K101 : Keep h0 h99 [] := K97.wr W99 (Or.inr B44)
        have N99 := Fr.snoc X99 N95 G44
        refine own_st st99 ?_
        show own_Go p e below T99 (mkF m 285 #[.val (.int p0), .val (.int p1), .val (.int p2), .val (.int p3), .val (.int r_1), .val (.int r_2), .val (.int r_3), .val (.ref y_4), .val (.ref y_9), .val (.ref y_14), .val (.ref y_39), .val (.ref b44), .val (.int (6 : Int32))] []) _
        refine own_st (fun t_ k_ => XS.iload X99.here hx rfl (hb hby at_285) rfl (XS.iconst X99.here hx rfl (hb hby at_287) (XS.iadd X99.here hx rfl (hb hby at_288) rfl (XS.istore X99.here hx rfl (hb hby at_289) rfl (l' := #[.val (.int p0), .val (.int p1), .val (.int p2), .val (.int p3), .val (.int r_1), .val (.int r_2), .val (.int r_3), .val (.ref y_4), .val (.ref y_9), .val (.ref y_14), .val (.ref y_39), .val (.ref b44), .val (.int (7 : Int32))]) rfl k_)))) ?_
        show own_Go p e below T99 (mkF m 291 #[.val (.int p0), .val (.int p1), .val (.int p2), .val (.int p3), .val (.int r_1), .val (.int r_2), .val (.int r_3), .val (.ref y_4), .val (.ref y_9), .val (.ref y_14), .val (.ref y_39), .val (.ref b44), .val (.int (7 : Int32))] []) _
        exact tail47 _ _ _ (7 : Int32) [(.int (0 : Int32)), (.int (0 : Int32)), (.int (0 : Int32)), (.int (0 : Int32))] X99 e99 N99 ((((((((Keep.refl h44 [b44]).wr W71 (Or.inl (List.mem_of_getElem? (i := 0) rfl))).wr W75 (Or.inl (List.mem_of_getElem? (i := 0) rfl))).wr W79 (Or.inl (List.mem_of_getElem? (i := 0) rfl))).wr W83 (Or.inl (List.mem_of_getElem? (i := 0) rfl))).wr W87 (Or.inl (List.mem_of_getElem? (i := 0) rfl))).wr W95 (Or.inl (List.mem_of_getElem? (i := 0) rfl))).wr W99 (Or.inl (List.mem_of_getElem? (i := 0) rfl))) (by rw [hA0.2, hA1.2, hA2.2]; exact V99) (by rw [hA0.2, hA1.2, hA2.2]; rfl)
    · skip
      refine own_st (fun t_ k_ => XS.ifNo X75.here hx rfl (hb hby at_158) rfl ((if0 _ _).trans (tlt (show (0 : Int32) < r_2 from (by rw [hA1.1] <;> decide))).2.2.2) (XS.aload X75.here hx rfl (hb hby at_161) rfl rfl (XS.iload X75.here hx rfl (hb hby at_163) rfl (XS.iloadN X75.here hx rfl (hb hby at_165) rfl (XS.sipush X75.here hx rfl (hb hby at_166) (XS.iand X75.here hx rfl (hb hby at_169) rfl (XS.i2c X75.here hx rfl (hb hby at_170) rfl k_))))))) ?_
      show own_Go p e below T75 (mkF m 171 #[.val (.int p0), .val (.int p1), .val (.int p2), .val (.int p3), .val (.int r_1), .val (.int r_2), .val (.int r_3), .val (.ref y_4), .val (.ref y_9), .val (.ref y_14), .val (.ref y_39), .val (.ref b44), .val (.int (2 : Int32))] [(.int ((p1 &&& (255 : Int32)).toUInt32.toUInt16.toUInt32.toInt32)), (.int (2 : Int32)), (.ref b44)]) _
      rw [own_i255 (own_m255 p1).1 (own_m255 p1).2]
      show own_Go p e below T75 (mkF m 171 #[.val (.int p0), .val (.int p1), .val (.int p2), .val (.int p3), .val (.int r_1), .val (.int r_2), .val (.int r_3), .val (.ref y_4), .val (.ref y_9), .val (.ref y_14), .val (.ref y_39), .val (.ref b44), .val (.int (2 : Int32))] [(.int (p1 &&& (255 : Int32))), (.int (2 : Int32)), (.ref b44)]) _
      obtain ⟨cl102, Ar102, q102, Sz102, Nn102, Hh102, Gg102⟩ := id V75
      have hin102 : ¬ ((2 : Int32) < 0 ∨ cl102.slots.size ≤ ((2 : Int32)).toNatClampNeg) := inb_of Sz102 ⟨by decide, by decide⟩
      obtain ⟨T103, h103, X103, e103, W103, st103⟩ := stC X75 hx hZ e75 Ar102 (j := (2 : Int32)) hin102 (g := (mkF m 171 #[.val (.int p0), .val (.int p1), .val (.int p2), .val (.int p3), .val (.int r_1), .val (.int r_2), .val (.int r_3), .val (.ref y_4), .val (.ref y_9), .val (.ref y_14), .val (.ref y_39), .val (.ref b44), .val (.int (2 : Int32))] [(.int (p1 &&& (255 : Int32))), (.int (2 : Int32)), (.ref b44)])) rfl rfl (hb hby at_171)
      have V103 : Arv Z h103 b44 k44 .char (11 : Int32) [(.int (32 : Int32)), (.int (91 : Int32)), (.int (nar .char (p1 &&& (255 : Int32)))), (.int (0 : Int32)), (.int (0 : Int32)), (.int (0 : Int32)), (.int (0 : Int32)), (.int (0 : Int32)), (.int (0 : Int32)), (.int (0 : Int32)), (.int (0 : Int32))] (.int (0 : Int32)) := Arv.set Ar102 q102 Sz102 Nn102 Hh102 Gg102 (fits_nar_char _) W103 2 rfl (Nat.le_of_ble_eq_true rfl)
      rw [own_nar (own_w255 p1)] at V103
      have Sa104 : Safe Z own_EL T39.vm h75 b44 := (Safe.arv hZ.alike V75 (by decide))
      have CH104 := CH76.wr W103 Sa104
      have CR104 := CHr.trans CR76 (CHr.wr W103 Sa104 CH76)
      have K105 : Keep h0 h103 [] := K77.wr W103 (Or.inr B44)
      have N103 := Fr.snoc X103 N75 G44
      refine own_st st103 ?_
      show own_Go p e below T103 (mkF m 172 #[.val (.int p0), .val (.int p1), .val (.int p2), .val (.int p3), .val (.int r_1), .val (.int r_2), .val (.int r_3), .val (.ref y_4), .val (.ref y_9), .val (.ref y_14), .val (.ref y_39), .val (.ref b44), .val (.int (2 : Int32))] []) _
      refine own_st (fun t_ k_ => XS.iload X103.here hx rfl (hb hby at_172) rfl (XS.iconst X103.here hx rfl (hb hby at_174) (XS.iadd X103.here hx rfl (hb hby at_175) rfl (XS.istore X103.here hx rfl (hb hby at_176) rfl (l' := #[.val (.int p0), .val (.int p1), .val (.int p2), .val (.int p3), .val (.int r_1), .val (.int r_2), .val (.int r_3), .val (.ref y_4), .val (.ref y_9), .val (.ref y_14), .val (.ref y_39), .val (.ref b44), .val (.int (3 : Int32))]) rfl (XS.iload X103.here hx rfl (hb hby at_178) rfl (XS.iconst X103.here hx rfl (hb hby at_180) (XS.icmpYes X103.here hx rfl (pc0 := 181) (pc' := 204) rfl (hb hby at_181) rfl (flt (show ¬ ((1 : Int32) < r_2) from (by rw [hA1.1] <;> decide))).2.2.2 (by decide) (by decide) (XS.aload X103.here hx rfl (hb hby at_204) rfl rfl (XS.iload X103.here hx rfl (hb hby at_206) rfl (XS.bipush X103.here hx rfl (hb hby at_208) k_)))))))))) ?_
      show own_Go p e below T103 (mkF m 210 #[.val (.int p0), .val (.int p1), .val (.int p2), .val (.int p3), .val (.int r_1), .val (.int r_2), .val (.int r_3), .val (.ref y_4), .val (.ref y_9), .val (.ref y_14), .val (.ref y_39), .val (.ref b44), .val (.int (3 : Int32))] [(.int (93 : Int32)), (.int (3 : Int32)), (.ref b44)]) _
      obtain ⟨cl106, Ar106, q106, Sz106, Nn106, Hh106, Gg106⟩ := id V103
      have hin106 : ¬ ((3 : Int32) < 0 ∨ cl106.slots.size ≤ ((3 : Int32)).toNatClampNeg) := inb_of Sz106 ⟨by decide, by decide⟩
      obtain ⟨T107, h107, X107, e107, W107, st107⟩ := stC X103 hx hZ e103 Ar106 (j := (3 : Int32)) hin106 (g := (mkF m 210 #[.val (.int p0), .val (.int p1), .val (.int p2), .val (.int p3), .val (.int r_1), .val (.int r_2), .val (.int r_3), .val (.ref y_4), .val (.ref y_9), .val (.ref y_14), .val (.ref y_39), .val (.ref b44), .val (.int (3 : Int32))] [(.int (93 : Int32)), (.int (3 : Int32)), (.ref b44)])) rfl rfl (hb hby at_210)
      have V107 : Arv Z h107 b44 k44 .char (11 : Int32) [(.int (32 : Int32)), (.int (91 : Int32)), (.int (p1 &&& (255 : Int32))), (.int (nar .char (93 : Int32))), (.int (0 : Int32)), (.int (0 : Int32)), (.int (0 : Int32)), (.int (0 : Int32)), (.int (0 : Int32)), (.int (0 : Int32)), (.int (0 : Int32))] (.int (0 : Int32)) := Arv.set Ar106 q106 Sz106 Nn106 Hh106 Gg106 (fits_nar_char _) W107 3 rfl (Nat.le_of_ble_eq_true rfl)
      rw [(show nar .char (93 : Int32) = (93 : Int32) from rfl)] at V107
      have Sa108 : Safe Z own_EL T39.vm h103 b44 := (Safe.arv hZ.alike V103 (by decide))
      have CH108 := CH104.wr W107 Sa108
      have CR108 := CHr.trans CR104 (CHr.wr W107 Sa108 CH104)
      have K109 : Keep h0 h107 [] := K105.wr W107 (Or.inr B44)
      have N107 := Fr.snoc X107 N103 G44
      refine own_st st107 ?_
      show own_Go p e below T107 (mkF m 211 #[.val (.int p0), .val (.int p1), .val (.int p2), .val (.int p3), .val (.int r_1), .val (.int r_2), .val (.int r_3), .val (.ref y_4), .val (.ref y_9), .val (.ref y_14), .val (.ref y_39), .val (.ref b44), .val (.int (3 : Int32))] []) _
      refine own_st (fun t_ k_ => XS.iload X107.here hx rfl (hb hby at_211) rfl (XS.iconst X107.here hx rfl (hb hby at_213) (XS.iadd X107.here hx rfl (hb hby at_214) rfl (XS.istore X107.here hx rfl (hb hby at_215) rfl (l' := #[.val (.int p0), .val (.int p1), .val (.int p2), .val (.int p3), .val (.int r_1), .val (.int r_2), .val (.int r_3), .val (.ref y_4), .val (.ref y_9), .val (.ref y_14), .val (.ref y_39), .val (.ref b44), .val (.int (4 : Int32))]) rfl (XS.aload X107.here hx rfl (hb hby at_217) rfl rfl (XS.iload X107.here hx rfl (hb hby at_219) rfl (XS.bipush X107.here hx rfl (hb hby at_221) k_))))))) ?_
      show own_Go p e below T107 (mkF m 223 #[.val (.int p0), .val (.int p1), .val (.int p2), .val (.int p3), .val (.int r_1), .val (.int r_2), .val (.int r_3), .val (.ref y_4), .val (.ref y_9), .val (.ref y_14), .val (.ref y_39), .val (.ref b44), .val (.int (4 : Int32))] [(.int (58 : Int32)), (.int (4 : Int32)), (.ref b44)]) _
      obtain ⟨cl110, Ar110, q110, Sz110, Nn110, Hh110, Gg110⟩ := id V107
      have hin110 : ¬ ((4 : Int32) < 0 ∨ cl110.slots.size ≤ ((4 : Int32)).toNatClampNeg) := inb_of Sz110 ⟨by decide, by decide⟩
      obtain ⟨T111, h111, X111, e111, W111, st111⟩ := stC X107 hx hZ e107 Ar110 (j := (4 : Int32)) hin110 (g := (mkF m 223 #[.val (.int p0), .val (.int p1), .val (.int p2), .val (.int p3), .val (.int r_1), .val (.int r_2), .val (.int r_3), .val (.ref y_4), .val (.ref y_9), .val (.ref y_14), .val (.ref y_39), .val (.ref b44), .val (.int (4 : Int32))] [(.int (58 : Int32)), (.int (4 : Int32)), (.ref b44)])) rfl rfl (hb hby at_223)
      have V111 : Arv Z h111 b44 k44 .char (11 : Int32) [(.int (32 : Int32)), (.int (91 : Int32)), (.int (p1 &&& (255 : Int32))), (.int (93 : Int32)), (.int (nar .char (58 : Int32))), (.int (0 : Int32)), (.int (0 : Int32)), (.int (0 : Int32)), (.int (0 : Int32)), (.int (0 : Int32)), (.int (0 : Int32))] (.int (0 : Int32)) := Arv.set Ar110 q110 Sz110 Nn110 Hh110 Gg110 (fits_nar_char _) W111 4 rfl (Nat.le_of_ble_eq_true rfl)
      rw [(show nar .char (58 : Int32) = (58 : Int32) from rfl)] at V111
      have Sa112 : Safe Z own_EL T39.vm h107 b44 := (Safe.arv hZ.alike V107 (by decide))
      have CH112 := CH108.wr W111 Sa112
      have CR112 := CHr.trans CR108 (CHr.wr W111 Sa112 CH108)
      have K113 : Keep h0 h111 [] := K109.wr W111 (Or.inr B44)
      have N111 := Fr.snoc X111 N107 G44
      refine own_st st111 ?_
      show own_Go p e below T111 (mkF m 224 #[.val (.int p0), .val (.int p1), .val (.int p2), .val (.int p3), .val (.int r_1), .val (.int r_2), .val (.int r_3), .val (.ref y_4), .val (.ref y_9), .val (.ref y_14), .val (.ref y_39), .val (.ref b44), .val (.int (4 : Int32))] []) _
      refine own_st (fun t_ k_ => XS.iload X111.here hx rfl (hb hby at_224) rfl (XS.iconst X111.here hx rfl (hb hby at_226) (XS.iadd X111.here hx rfl (hb hby at_227) rfl (XS.istore X111.here hx rfl (hb hby at_228) rfl (l' := #[.val (.int p0), .val (.int p1), .val (.int p2), .val (.int p3), .val (.int r_1), .val (.int r_2), .val (.int r_3), .val (.ref y_4), .val (.ref y_9), .val (.ref y_14), .val (.ref y_39), .val (.ref b44), .val (.int (5 : Int32))]) rfl (XS.aload X111.here hx rfl (hb hby at_230) rfl rfl (XS.iload X111.here hx rfl (hb hby at_232) rfl (XS.bipush X111.here hx rfl (hb hby at_234) k_))))))) ?_
      show own_Go p e below T111 (mkF m 236 #[.val (.int p0), .val (.int p1), .val (.int p2), .val (.int p3), .val (.int r_1), .val (.int r_2), .val (.int r_3), .val (.ref y_4), .val (.ref y_9), .val (.ref y_14), .val (.ref y_39), .val (.ref b44), .val (.int (5 : Int32))] [(.int (32 : Int32)), (.int (5 : Int32)), (.ref b44)]) _
      obtain ⟨cl114, Ar114, q114, Sz114, Nn114, Hh114, Gg114⟩ := id V111
      have hin114 : ¬ ((5 : Int32) < 0 ∨ cl114.slots.size ≤ ((5 : Int32)).toNatClampNeg) := inb_of Sz114 ⟨by decide, by decide⟩
      obtain ⟨T115, h115, X115, e115, W115, st115⟩ := stC X111 hx hZ e111 Ar114 (j := (5 : Int32)) hin114 (g := (mkF m 236 #[.val (.int p0), .val (.int p1), .val (.int p2), .val (.int p3), .val (.int r_1), .val (.int r_2), .val (.int r_3), .val (.ref y_4), .val (.ref y_9), .val (.ref y_14), .val (.ref y_39), .val (.ref b44), .val (.int (5 : Int32))] [(.int (32 : Int32)), (.int (5 : Int32)), (.ref b44)])) rfl rfl (hb hby at_236)
      have V115 : Arv Z h115 b44 k44 .char (11 : Int32) [(.int (32 : Int32)), (.int (91 : Int32)), (.int (p1 &&& (255 : Int32))), (.int (93 : Int32)), (.int (58 : Int32)), (.int (nar .char (32 : Int32))), (.int (0 : Int32)), (.int (0 : Int32)), (.int (0 : Int32)), (.int (0 : Int32)), (.int (0 : Int32))] (.int (0 : Int32)) := Arv.set Ar114 q114 Sz114 Nn114 Hh114 Gg114 (fits_nar_char _) W115 5 rfl (Nat.le_of_ble_eq_true rfl)
      rw [(show nar .char (32 : Int32) = (32 : Int32) from rfl)] at V115
      have Sa116 : Safe Z own_EL T39.vm h111 b44 := (Safe.arv hZ.alike V111 (by decide))
      have CH116 := CH112.wr W115 Sa116
      have CR116 := CHr.trans CR112 (CHr.wr W115 Sa116 CH112)
      have K117 : Keep h0 h115 [] := K113.wr W115 (Or.inr B44)
      have N115 := Fr.snoc X115 N111 G44
      refine own_st st115 ?_
      show own_Go p e below T115 (mkF m 237 #[.val (.int p0), .val (.int p1), .val (.int p2), .val (.int p3), .val (.int r_1), .val (.int r_2), .val (.int r_3), .val (.ref y_4), .val (.ref y_9), .val (.ref y_14), .val (.ref y_39), .val (.ref b44), .val (.int (5 : Int32))] []) _
      refine own_st (fun t_ k_ => XS.iload X115.here hx rfl (hb hby at_237) rfl (XS.iconst X115.here hx rfl (hb hby at_239) (XS.iadd X115.here hx rfl (hb hby at_240) rfl (XS.istore X115.here hx rfl (hb hby at_241) rfl (l' := #[.val (.int p0), .val (.int p1), .val (.int p2), .val (.int p3), .val (.int r_1), .val (.int r_2), .val (.int r_3), .val (.ref y_4), .val (.ref y_9), .val (.ref y_14), .val (.ref y_39), .val (.ref b44), .val (.int (6 : Int32))]) rfl (XS.iload X115.here hx rfl (hb hby at_243) rfl k_))))) ?_
      show own_Go p e below T115 (mkF m 245 #[.val (.int p0), .val (.int p1), .val (.int p2), .val (.int p3), .val (.int r_1), .val (.int r_2), .val (.int r_3), .val (.ref y_4), .val (.ref y_9), .val (.ref y_14), .val (.ref y_39), .val (.ref b44), .val (.int (6 : Int32))] [(.int r_3)]) _
      rcases hM2 with hA2 | hA2 | hA2
      · skip
        refine own_st (fun t_ k_ => XS.ifYes X115.here hx rfl (pc0 := 245) (pc' := 265) rfl (hb hby at_245) rfl ((if0 _ _).trans (flt (show ¬ ((0 : Int32) < r_3) from (by rw [hA2.1] <;> decide))).2.2.2) (by decide) (by decide) (XS.iload X115.here hx rfl (hb hby at_265) rfl (XS.iconst X115.here hx rfl (hb hby at_267) (XS.icmpYes X115.here hx rfl (pc0 := 268) (pc' := 291) rfl (hb hby at_268) rfl (flt (show ¬ ((1 : Int32) < r_3) from (by rw [hA2.1] <;> decide))).2.2.2 (by decide) (by decide) k_)))) ?_
        show own_Go p e below T115 (mkF m 291 #[.val (.int p0), .val (.int p1), .val (.int p2), .val (.int p3), .val (.int r_1), .val (.int r_2), .val (.int r_3), .val (.ref y_4), .val (.ref y_9), .val (.ref y_14), .val (.ref y_39), .val (.ref b44), .val (.int (6 : Int32))] []) _
        exact tail47 _ _ _ (6 : Int32) [(.int (0 : Int32)), (.int (0 : Int32)), (.int (0 : Int32)), (.int (0 : Int32)), (.int (0 : Int32))] X115 e115 N115 (((((((Keep.refl h44 [b44]).wr W71 (Or.inl (List.mem_of_getElem? (i := 0) rfl))).wr W75 (Or.inl (List.mem_of_getElem? (i := 0) rfl))).wr W103 (Or.inl (List.mem_of_getElem? (i := 0) rfl))).wr W107 (Or.inl (List.mem_of_getElem? (i := 0) rfl))).wr W111 (Or.inl (List.mem_of_getElem? (i := 0) rfl))).wr W115 (Or.inl (List.mem_of_getElem? (i := 0) rfl))) (by rw [hA0.2, hA1.2, hA2.2]; exact V115) (by rw [hA0.2, hA1.2, hA2.2]; rfl)
      · skip
        refine own_st (fun t_ k_ => XS.ifNo X115.here hx rfl (hb hby at_245) rfl ((if0 _ _).trans (tlt (show (0 : Int32) < r_3 from (by rw [hA2.1] <;> decide))).2.2.2) (XS.aload X115.here hx rfl (hb hby at_248) rfl rfl (XS.iload X115.here hx rfl (hb hby at_250) rfl (XS.iloadN X115.here hx rfl (hb hby at_252) rfl (XS.sipush X115.here hx rfl (hb hby at_253) (XS.iand X115.here hx rfl (hb hby at_256) rfl (XS.i2c X115.here hx rfl (hb hby at_257) rfl k_))))))) ?_
        show own_Go p e below T115 (mkF m 258 #[.val (.int p0), .val (.int p1), .val (.int p2), .val (.int p3), .val (.int r_1), .val (.int r_2), .val (.int r_3), .val (.ref y_4), .val (.ref y_9), .val (.ref y_14), .val (.ref y_39), .val (.ref b44), .val (.int (6 : Int32))] [(.int ((p2 &&& (255 : Int32)).toUInt32.toUInt16.toUInt32.toInt32)), (.int (6 : Int32)), (.ref b44)]) _
        rw [own_i255 (own_m255 p2).1 (own_m255 p2).2]
        show own_Go p e below T115 (mkF m 258 #[.val (.int p0), .val (.int p1), .val (.int p2), .val (.int p3), .val (.int r_1), .val (.int r_2), .val (.int r_3), .val (.ref y_4), .val (.ref y_9), .val (.ref y_14), .val (.ref y_39), .val (.ref b44), .val (.int (6 : Int32))] [(.int (p2 &&& (255 : Int32))), (.int (6 : Int32)), (.ref b44)]) _
        obtain ⟨cl118, Ar118, q118, Sz118, Nn118, Hh118, Gg118⟩ := id V115
        have hin118 : ¬ ((6 : Int32) < 0 ∨ cl118.slots.size ≤ ((6 : Int32)).toNatClampNeg) := inb_of Sz118 ⟨by decide, by decide⟩
        obtain ⟨T119, h119, X119, e119, W119, st119⟩ := stC X115 hx hZ e115 Ar118 (j := (6 : Int32)) hin118 (g := (mkF m 258 #[.val (.int p0), .val (.int p1), .val (.int p2), .val (.int p3), .val (.int r_1), .val (.int r_2), .val (.int r_3), .val (.ref y_4), .val (.ref y_9), .val (.ref y_14), .val (.ref y_39), .val (.ref b44), .val (.int (6 : Int32))] [(.int (p2 &&& (255 : Int32))), (.int (6 : Int32)), (.ref b44)])) rfl rfl (hb hby at_258)
        have V119 : Arv Z h119 b44 k44 .char (11 : Int32) [(.int (32 : Int32)), (.int (91 : Int32)), (.int (p1 &&& (255 : Int32))), (.int (93 : Int32)), (.int (58 : Int32)), (.int (32 : Int32)), (.int (nar .char (p2 &&& (255 : Int32)))), (.int (0 : Int32)), (.int (0 : Int32)), (.int (0 : Int32)), (.int (0 : Int32))] (.int (0 : Int32)) := Arv.set Ar118 q118 Sz118 Nn118 Hh118 Gg118 (fits_nar_char _) W119 6 rfl (Nat.le_of_ble_eq_true rfl)
        rw [own_nar (own_w255 p2)] at V119
        have Sa120 : Safe Z own_EL T39.vm h115 b44 := (Safe.arv hZ.alike V115 (by decide))
        have CH120 := CH116.wr W119 Sa120
        have CR120 := CHr.trans CR116 (CHr.wr W119 Sa120 CH116)
        have K121 : Keep h0 h119 [] := K117.wr W119 (Or.inr B44)
        have N119 := Fr.snoc X119 N115 G44
        refine own_st st119 ?_
        show own_Go p e below T119 (mkF m 259 #[.val (.int p0), .val (.int p1), .val (.int p2), .val (.int p3), .val (.int r_1), .val (.int r_2), .val (.int r_3), .val (.ref y_4), .val (.ref y_9), .val (.ref y_14), .val (.ref y_39), .val (.ref b44), .val (.int (6 : Int32))] []) _
        refine own_st (fun t_ k_ => XS.iload X119.here hx rfl (hb hby at_259) rfl (XS.iconst X119.here hx rfl (hb hby at_261) (XS.iadd X119.here hx rfl (hb hby at_262) rfl (XS.istore X119.here hx rfl (hb hby at_263) rfl (l' := #[.val (.int p0), .val (.int p1), .val (.int p2), .val (.int p3), .val (.int r_1), .val (.int r_2), .val (.int r_3), .val (.ref y_4), .val (.ref y_9), .val (.ref y_14), .val (.ref y_39), .val (.ref b44), .val (.int (7 : Int32))]) rfl (XS.iload X119.here hx rfl (hb hby at_265) rfl (XS.iconst X119.here hx rfl (hb hby at_267) (XS.icmpYes X119.here hx rfl (pc0 := 268) (pc' := 291) rfl (hb hby at_268) rfl (flt (show ¬ ((1 : Int32) < r_3) from (by rw [hA2.1] <;> decide))).2.2.2 (by decide) (by decide) k_))))))) ?_
        show own_Go p e below T119 (mkF m 291 #[.val (.int p0), .val (.int p1), .val (.int p2), .val (.int p3), .val (.int r_1), .val (.int r_2), .val (.int r_3), .val (.ref y_4), .val (.ref y_9), .val (.ref y_14), .val (.ref y_39), .val (.ref b44), .val (.int (7 : Int32))] []) _
        exact tail47 _ _ _ (7 : Int32) [(.int (0 : Int32)), (.int (0 : Int32)), (.int (0 : Int32)), (.int (0 : Int32))] X119 e119 N119 ((((((((Keep.refl h44 [b44]).wr W71 (Or.inl (List.mem_of_getElem? (i := 0) rfl))).wr W75 (Or.inl (List.mem_of_getElem? (i := 0) rfl))).wr W103 (Or.inl (List.mem_of_getElem? (i := 0) rfl))).wr W107 (Or.inl (List.mem_of_getElem? (i := 0) rfl))).wr W111 (Or.inl (List.mem_of_getElem? (i := 0) rfl))).wr W115 (Or.inl (List.mem_of_getElem? (i := 0) rfl))).wr W119 (Or.inl (List.mem_of_getElem? (i := 0) rfl))) (by rw [hA0.2, hA1.2, hA2.2]; exact V119) (by rw [hA0.2, hA1.2, hA2.2]; rfl)
      · skip
        refine own_st (fun t_ k_ => XS.ifNo X115.here hx rfl (hb hby at_245) rfl ((if0 _ _).trans (tlt (show (0 : Int32) < r_3 from (by rw [hA2.1] <;> decide))).2.2.2) (XS.aload X115.here hx rfl (hb hby at_248) rfl rfl (XS.iload X115.here hx rfl (hb hby at_250) rfl (XS.iloadN X115.here hx rfl (hb hby at_252) rfl (XS.sipush X115.here hx rfl (hb hby at_253) (XS.iand X115.here hx rfl (hb hby at_256) rfl (XS.i2c X115.here hx rfl (hb hby at_257) rfl k_))))))) ?_
        show own_Go p e below T115 (mkF m 258 #[.val (.int p0), .val (.int p1), .val (.int p2), .val (.int p3), .val (.int r_1), .val (.int r_2), .val (.int r_3), .val (.ref y_4), .val (.ref y_9), .val (.ref y_14), .val (.ref y_39), .val (.ref b44), .val (.int (6 : Int32))] [(.int ((p2 &&& (255 : Int32)).toUInt32.toUInt16.toUInt32.toInt32)), (.int (6 : Int32)), (.ref b44)]) _
        rw [own_i255 (own_m255 p2).1 (own_m255 p2).2]
        show own_Go p e below T115 (mkF m 258 #[.val (.int p0), .val (.int p1), .val (.int p2), .val (.int p3), .val (.int r_1), .val (.int r_2), .val (.int r_3), .val (.ref y_4), .val (.ref y_9), .val (.ref y_14), .val (.ref y_39), .val (.ref b44), .val (.int (6 : Int32))] [(.int (p2 &&& (255 : Int32))), (.int (6 : Int32)), (.ref b44)]) _
        obtain ⟨cl122, Ar122, q122, Sz122, Nn122, Hh122, Gg122⟩ := id V115
        have hin122 : ¬ ((6 : Int32) < 0 ∨ cl122.slots.size ≤ ((6 : Int32)).toNatClampNeg) := inb_of Sz122 ⟨by decide, by decide⟩
        obtain ⟨T123, h123, X123, e123, W123, st123⟩ := stC X115 hx hZ e115 Ar122 (j := (6 : Int32)) hin122 (g := (mkF m 258 #[.val (.int p0), .val (.int p1), .val (.int p2), .val (.int p3), .val (.int r_1), .val (.int r_2), .val (.int r_3), .val (.ref y_4), .val (.ref y_9), .val (.ref y_14), .val (.ref y_39), .val (.ref b44), .val (.int (6 : Int32))] [(.int (p2 &&& (255 : Int32))), (.int (6 : Int32)), (.ref b44)])) rfl rfl (hb hby at_258)
        have V123 : Arv Z h123 b44 k44 .char (11 : Int32) [(.int (32 : Int32)), (.int (91 : Int32)), (.int (p1 &&& (255 : Int32))), (.int (93 : Int32)), (.int (58 : Int32)), (.int (32 : Int32)), (.int (nar .char (p2 &&& (255 : Int32)))), (.int (0 : Int32)), (.int (0 : Int32)), (.int (0 : Int32)), (.int (0 : Int32))] (.int (0 : Int32)) := Arv.set Ar122 q122 Sz122 Nn122 Hh122 Gg122 (fits_nar_char _) W123 6 rfl (Nat.le_of_ble_eq_true rfl)
        rw [own_nar (own_w255 p2)] at V123
        have Sa124 : Safe Z own_EL T39.vm h115 b44 := (Safe.arv hZ.alike V115 (by decide))
        have CH124 := CH116.wr W123 Sa124
        have CR124 := CHr.trans CR116 (CHr.wr W123 Sa124 CH116)
        have K125 : Keep h0 h123 [] := K117.wr W123 (Or.inr B44)
        have N123 := Fr.snoc X123 N115 G44
        refine own_st st123 ?_
        show own_Go p e below T123 (mkF m 259 #[.val (.int p0), .val (.int p1), .val (.int p2), .val (.int p3), .val (.int r_1), .val (.int r_2), .val (.int r_3), .val (.ref y_4), .val (.ref y_9), .val (.ref y_14), .val (.ref y_39), .val (.ref b44), .val (.int (6 : Int32))] []) _
        refine own_st (fun t_ k_ => XS.iload X123.here hx rfl (hb hby at_259) rfl (XS.iconst X123.here hx rfl (hb hby at_261) (XS.iadd X123.here hx rfl (hb hby at_262) rfl (XS.istore X123.here hx rfl (hb hby at_263) rfl (l' := #[.val (.int p0), .val (.int p1), .val (.int p2), .val (.int p3), .val (.int r_1), .val (.int r_2), .val (.int r_3), .val (.ref y_4), .val (.ref y_9), .val (.ref y_14), .val (.ref y_39), .val (.ref b44), .val (.int (7 : Int32))]) rfl (XS.iload X123.here hx rfl (hb hby at_265) rfl (XS.iconst X123.here hx rfl (hb hby at_267) (XS.icmpNo X123.here hx rfl (hb hby at_268) rfl (tlt (show (1 : Int32) < r_3 from (by rw [hA2.1] <;> decide))).2.2.2 (XS.aload X123.here hx rfl (hb hby at_271) rfl rfl (XS.iload X123.here hx rfl (hb hby at_273) rfl (XS.iloadN X123.here hx rfl (hb hby at_275) rfl k_)))))))))) ?_
        show own_Go p e below T123 (mkF m 276 #[.val (.int p0), .val (.int p1), .val (.int p2), .val (.int p3), .val (.int r_1), .val (.int r_2), .val (.int r_3), .val (.ref y_4), .val (.ref y_9), .val (.ref y_14), .val (.ref y_39), .val (.ref b44), .val (.int (7 : Int32))] [(.int p2), (.int (7 : Int32)), (.ref b44)]) _
        refine own_st (fun t_ k_ => XS.bipush X123.here hx rfl (hb hby at_276) (XS.iushr X123.here hx rfl (hb hby at_278) rfl (XS.sipush X123.here hx rfl (hb hby at_279) (XS.iand X123.here hx rfl (hb hby at_282) rfl (XS.i2c X123.here hx rfl (hb hby at_283) rfl k_))))) ?_
        show own_Go p e below T123 (mkF m 284 #[.val (.int p0), .val (.int p1), .val (.int p2), .val (.int p3), .val (.int r_1), .val (.int r_2), .val (.int r_3), .val (.ref y_4), .val (.ref y_9), .val (.ref y_14), .val (.ref y_39), .val (.ref b44), .val (.int (7 : Int32))] [(.int ((((p2.toUInt32 >>> ((8 : Int32) &&& 31).toUInt32).toInt32) &&& (255 : Int32)).toUInt32.toUInt16.toUInt32.toInt32)), (.int (7 : Int32)), (.ref b44)]) _
        rw [own_iu8 p2, own_i255 (own_m255 (own_hi p2)).1 (own_m255 (own_hi p2)).2]
        show own_Go p e below T123 (mkF m 284 #[.val (.int p0), .val (.int p1), .val (.int p2), .val (.int p3), .val (.int r_1), .val (.int r_2), .val (.int r_3), .val (.ref y_4), .val (.ref y_9), .val (.ref y_14), .val (.ref y_39), .val (.ref b44), .val (.int (7 : Int32))] [(.int (own_hi p2 &&& (255 : Int32))), (.int (7 : Int32)), (.ref b44)]) _
        obtain ⟨cl126, Ar126, q126, Sz126, Nn126, Hh126, Gg126⟩ := id V123
        have hin126 : ¬ ((7 : Int32) < 0 ∨ cl126.slots.size ≤ ((7 : Int32)).toNatClampNeg) := inb_of Sz126 ⟨by decide, by decide⟩
        obtain ⟨T127, h127, X127, e127, W127, st127⟩ := stC X123 hx hZ e123 Ar126 (j := (7 : Int32)) hin126 (g := (mkF m 284 #[.val (.int p0), .val (.int p1), .val (.int p2), .val (.int p3), .val (.int r_1), .val (.int r_2), .val (.int r_3), .val (.ref y_4), .val (.ref y_9), .val (.ref y_14), .val (.ref y_39), .val (.ref b44), .val (.int (7 : Int32))] [(.int (own_hi p2 &&& (255 : Int32))), (.int (7 : Int32)), (.ref b44)])) rfl rfl (hb hby at_284)
        have V127 : Arv Z h127 b44 k44 .char (11 : Int32) [(.int (32 : Int32)), (.int (91 : Int32)), (.int (p1 &&& (255 : Int32))), (.int (93 : Int32)), (.int (58 : Int32)), (.int (32 : Int32)), (.int (p2 &&& (255 : Int32))), (.int (nar .char (own_hi p2 &&& (255 : Int32)))), (.int (0 : Int32)), (.int (0 : Int32)), (.int (0 : Int32))] (.int (0 : Int32)) := Arv.set Ar126 q126 Sz126 Nn126 Hh126 Gg126 (fits_nar_char _) W127 7 rfl (Nat.le_of_ble_eq_true rfl)
        rw [own_nar (own_w255 (own_hi p2))] at V127
        have Sa128 : Safe Z own_EL T39.vm h123 b44 := (Safe.arv hZ.alike V123 (by decide))
        have CH128 := CH124.wr W127 Sa128
        have CR128 := CHr.trans CR124 (CHr.wr W127 Sa128 CH124)
        have K129 : Keep h0 h127 [] := K125.wr W127 (Or.inr B44)
        have N127 := Fr.snoc X127 N123 G44
        refine own_st st127 ?_
        show own_Go p e below T127 (mkF m 285 #[.val (.int p0), .val (.int p1), .val (.int p2), .val (.int p3), .val (.int r_1), .val (.int r_2), .val (.int r_3), .val (.ref y_4), .val (.ref y_9), .val (.ref y_14), .val (.ref y_39), .val (.ref b44), .val (.int (7 : Int32))] []) _
        refine own_st (fun t_ k_ => XS.iload X127.here hx rfl (hb hby at_285) rfl (XS.iconst X127.here hx rfl (hb hby at_287) (XS.iadd X127.here hx rfl (hb hby at_288) rfl (XS.istore X127.here hx rfl (hb hby at_289) rfl (l' := #[.val (.int p0), .val (.int p1), .val (.int p2), .val (.int p3), .val (.int r_1), .val (.int r_2), .val (.int r_3), .val (.ref y_4), .val (.ref y_9), .val (.ref y_14), .val (.ref y_39), .val (.ref b44), .val (.int (8 : Int32))]) rfl k_)))) ?_
        show own_Go p e below T127 (mkF m 291 #[.val (.int p0), .val (.int p1), .val (.int p2), .val (.int p3), .val (.int r_1), .val (.int r_2), .val (.int r_3), .val (.ref y_4), .val (.ref y_9), .val (.ref y_14), .val (.ref y_39), .val (.ref b44), .val (.int (8 : Int32))] []) _
        exact tail47 _ _ _ (8 : Int32) [(.int (0 : Int32)), (.int (0 : Int32)), (.int (0 : Int32))] X127 e127 N127 (((((((((Keep.refl h44 [b44]).wr W71 (Or.inl (List.mem_of_getElem? (i := 0) rfl))).wr W75 (Or.inl (List.mem_of_getElem? (i := 0) rfl))).wr W103 (Or.inl (List.mem_of_getElem? (i := 0) rfl))).wr W107 (Or.inl (List.mem_of_getElem? (i := 0) rfl))).wr W111 (Or.inl (List.mem_of_getElem? (i := 0) rfl))).wr W115 (Or.inl (List.mem_of_getElem? (i := 0) rfl))).wr W123 (Or.inl (List.mem_of_getElem? (i := 0) rfl))).wr W127 (Or.inl (List.mem_of_getElem? (i := 0) rfl))) (by rw [hA0.2, hA1.2, hA2.2]; exact V127) (by rw [hA0.2, hA1.2, hA2.2]; rfl)
    · skip
      refine own_st (fun t_ k_ => XS.ifNo X75.here hx rfl (hb hby at_158) rfl ((if0 _ _).trans (tlt (show (0 : Int32) < r_2 from (by rw [hA1.1] <;> decide))).2.2.2) (XS.aload X75.here hx rfl (hb hby at_161) rfl rfl (XS.iload X75.here hx rfl (hb hby at_163) rfl (XS.iloadN X75.here hx rfl (hb hby at_165) rfl (XS.sipush X75.here hx rfl (hb hby at_166) (XS.iand X75.here hx rfl (hb hby at_169) rfl (XS.i2c X75.here hx rfl (hb hby at_170) rfl k_))))))) ?_
      show own_Go p e below T75 (mkF m 171 #[.val (.int p0), .val (.int p1), .val (.int p2), .val (.int p3), .val (.int r_1), .val (.int r_2), .val (.int r_3), .val (.ref y_4), .val (.ref y_9), .val (.ref y_14), .val (.ref y_39), .val (.ref b44), .val (.int (2 : Int32))] [(.int ((p1 &&& (255 : Int32)).toUInt32.toUInt16.toUInt32.toInt32)), (.int (2 : Int32)), (.ref b44)]) _
      rw [own_i255 (own_m255 p1).1 (own_m255 p1).2]
      show own_Go p e below T75 (mkF m 171 #[.val (.int p0), .val (.int p1), .val (.int p2), .val (.int p3), .val (.int r_1), .val (.int r_2), .val (.int r_3), .val (.ref y_4), .val (.ref y_9), .val (.ref y_14), .val (.ref y_39), .val (.ref b44), .val (.int (2 : Int32))] [(.int (p1 &&& (255 : Int32))), (.int (2 : Int32)), (.ref b44)]) _
      obtain ⟨cl130, Ar130, q130, Sz130, Nn130, Hh130, Gg130⟩ := id V75
      have hin130 : ¬ ((2 : Int32) < 0 ∨ cl130.slots.size ≤ ((2 : Int32)).toNatClampNeg) := inb_of Sz130 ⟨by decide, by decide⟩
      obtain ⟨T131, h131, X131, e131, W131, st131⟩ := stC X75 hx hZ e75 Ar130 (j := (2 : Int32)) hin130 (g := (mkF m 171 #[.val (.int p0), .val (.int p1), .val (.int p2), .val (.int p3), .val (.int r_1), .val (.int r_2), .val (.int r_3), .val (.ref y_4), .val (.ref y_9), .val (.ref y_14), .val (.ref y_39), .val (.ref b44), .val (.int (2 : Int32))] [(.int (p1 &&& (255 : Int32))), (.int (2 : Int32)), (.ref b44)])) rfl rfl (hb hby at_171)
      have V131 : Arv Z h131 b44 k44 .char (11 : Int32) [(.int (32 : Int32)), (.int (91 : Int32)), (.int (nar .char (p1 &&& (255 : Int32)))), (.int (0 : Int32)), (.int (0 : Int32)), (.int (0 : Int32)), (.int (0 : Int32)), (.int (0 : Int32)), (.int (0 : Int32)), (.int (0 : Int32)), (.int (0 : Int32))] (.int (0 : Int32)) := Arv.set Ar130 q130 Sz130 Nn130 Hh130 Gg130 (fits_nar_char _) W131 2 rfl (Nat.le_of_ble_eq_true rfl)
      rw [own_nar (own_w255 p1)] at V131
      have Sa132 : Safe Z own_EL T39.vm h75 b44 := (Safe.arv hZ.alike V75 (by decide))
      have CH132 := CH76.wr W131 Sa132
      have CR132 := CHr.trans CR76 (CHr.wr W131 Sa132 CH76)
      have K133 : Keep h0 h131 [] := K77.wr W131 (Or.inr B44)
      have N131 := Fr.snoc X131 N75 G44
      refine own_st st131 ?_
      show own_Go p e below T131 (mkF m 172 #[.val (.int p0), .val (.int p1), .val (.int p2), .val (.int p3), .val (.int r_1), .val (.int r_2), .val (.int r_3), .val (.ref y_4), .val (.ref y_9), .val (.ref y_14), .val (.ref y_39), .val (.ref b44), .val (.int (2 : Int32))] []) _
      refine own_st (fun t_ k_ => XS.iload X131.here hx rfl (hb hby at_172) rfl (XS.iconst X131.here hx rfl (hb hby at_174) (XS.iadd X131.here hx rfl (hb hby at_175) rfl (XS.istore X131.here hx rfl (hb hby at_176) rfl (l' := #[.val (.int p0), .val (.int p1), .val (.int p2), .val (.int p3), .val (.int r_1), .val (.int r_2), .val (.int r_3), .val (.ref y_4), .val (.ref y_9), .val (.ref y_14), .val (.ref y_39), .val (.ref b44), .val (.int (3 : Int32))]) rfl (XS.iload X131.here hx rfl (hb hby at_178) rfl (XS.iconst X131.here hx rfl (hb hby at_180) (XS.icmpNo X131.here hx rfl (hb hby at_181) rfl (tlt (show (1 : Int32) < r_2 from (by rw [hA1.1] <;> decide))).2.2.2 (XS.aload X131.here hx rfl (hb hby at_184) rfl rfl (XS.iload X131.here hx rfl (hb hby at_186) rfl (XS.iloadN X131.here hx rfl (hb hby at_188) rfl k_)))))))))) ?_
      show own_Go p e below T131 (mkF m 189 #[.val (.int p0), .val (.int p1), .val (.int p2), .val (.int p3), .val (.int r_1), .val (.int r_2), .val (.int r_3), .val (.ref y_4), .val (.ref y_9), .val (.ref y_14), .val (.ref y_39), .val (.ref b44), .val (.int (3 : Int32))] [(.int p1), (.int (3 : Int32)), (.ref b44)]) _
      refine own_st (fun t_ k_ => XS.bipush X131.here hx rfl (hb hby at_189) (XS.iushr X131.here hx rfl (hb hby at_191) rfl (XS.sipush X131.here hx rfl (hb hby at_192) (XS.iand X131.here hx rfl (hb hby at_195) rfl (XS.i2c X131.here hx rfl (hb hby at_196) rfl k_))))) ?_
      show own_Go p e below T131 (mkF m 197 #[.val (.int p0), .val (.int p1), .val (.int p2), .val (.int p3), .val (.int r_1), .val (.int r_2), .val (.int r_3), .val (.ref y_4), .val (.ref y_9), .val (.ref y_14), .val (.ref y_39), .val (.ref b44), .val (.int (3 : Int32))] [(.int ((((p1.toUInt32 >>> ((8 : Int32) &&& 31).toUInt32).toInt32) &&& (255 : Int32)).toUInt32.toUInt16.toUInt32.toInt32)), (.int (3 : Int32)), (.ref b44)]) _
      rw [own_iu8 p1, own_i255 (own_m255 (own_hi p1)).1 (own_m255 (own_hi p1)).2]
      show own_Go p e below T131 (mkF m 197 #[.val (.int p0), .val (.int p1), .val (.int p2), .val (.int p3), .val (.int r_1), .val (.int r_2), .val (.int r_3), .val (.ref y_4), .val (.ref y_9), .val (.ref y_14), .val (.ref y_39), .val (.ref b44), .val (.int (3 : Int32))] [(.int (own_hi p1 &&& (255 : Int32))), (.int (3 : Int32)), (.ref b44)]) _
      obtain ⟨cl134, Ar134, q134, Sz134, Nn134, Hh134, Gg134⟩ := id V131
      have hin134 : ¬ ((3 : Int32) < 0 ∨ cl134.slots.size ≤ ((3 : Int32)).toNatClampNeg) := inb_of Sz134 ⟨by decide, by decide⟩
      obtain ⟨T135, h135, X135, e135, W135, st135⟩ := stC X131 hx hZ e131 Ar134 (j := (3 : Int32)) hin134 (g := (mkF m 197 #[.val (.int p0), .val (.int p1), .val (.int p2), .val (.int p3), .val (.int r_1), .val (.int r_2), .val (.int r_3), .val (.ref y_4), .val (.ref y_9), .val (.ref y_14), .val (.ref y_39), .val (.ref b44), .val (.int (3 : Int32))] [(.int (own_hi p1 &&& (255 : Int32))), (.int (3 : Int32)), (.ref b44)])) rfl rfl (hb hby at_197)
      have V135 : Arv Z h135 b44 k44 .char (11 : Int32) [(.int (32 : Int32)), (.int (91 : Int32)), (.int (p1 &&& (255 : Int32))), (.int (nar .char (own_hi p1 &&& (255 : Int32)))), (.int (0 : Int32)), (.int (0 : Int32)), (.int (0 : Int32)), (.int (0 : Int32)), (.int (0 : Int32)), (.int (0 : Int32)), (.int (0 : Int32))] (.int (0 : Int32)) := Arv.set Ar134 q134 Sz134 Nn134 Hh134 Gg134 (fits_nar_char _) W135 3 rfl (Nat.le_of_ble_eq_true rfl)
      rw [own_nar (own_w255 (own_hi p1))] at V135
      have Sa136 : Safe Z own_EL T39.vm h131 b44 := (Safe.arv hZ.alike V131 (by decide))
      have CH136 := CH132.wr W135 Sa136
      have CR136 := CHr.trans CR132 (CHr.wr W135 Sa136 CH132)
      have K137 : Keep h0 h135 [] := K133.wr W135 (Or.inr B44)
      have N135 := Fr.snoc X135 N131 G44
      refine own_st st135 ?_
      show own_Go p e below T135 (mkF m 198 #[.val (.int p0), .val (.int p1), .val (.int p2), .val (.int p3), .val (.int r_1), .val (.int r_2), .val (.int r_3), .val (.ref y_4), .val (.ref y_9), .val (.ref y_14), .val (.ref y_39), .val (.ref b44), .val (.int (3 : Int32))] []) _
      refine own_st (fun t_ k_ => XS.iload X135.here hx rfl (hb hby at_198) rfl (XS.iconst X135.here hx rfl (hb hby at_200) (XS.iadd X135.here hx rfl (hb hby at_201) rfl (XS.istore X135.here hx rfl (hb hby at_202) rfl (l' := #[.val (.int p0), .val (.int p1), .val (.int p2), .val (.int p3), .val (.int r_1), .val (.int r_2), .val (.int r_3), .val (.ref y_4), .val (.ref y_9), .val (.ref y_14), .val (.ref y_39), .val (.ref b44), .val (.int (4 : Int32))]) rfl (XS.aload X135.here hx rfl (hb hby at_204) rfl rfl (XS.iload X135.here hx rfl (hb hby at_206) rfl (XS.bipush X135.here hx rfl (hb hby at_208) k_))))))) ?_
      show own_Go p e below T135 (mkF m 210 #[.val (.int p0), .val (.int p1), .val (.int p2), .val (.int p3), .val (.int r_1), .val (.int r_2), .val (.int r_3), .val (.ref y_4), .val (.ref y_9), .val (.ref y_14), .val (.ref y_39), .val (.ref b44), .val (.int (4 : Int32))] [(.int (93 : Int32)), (.int (4 : Int32)), (.ref b44)]) _
      obtain ⟨cl138, Ar138, q138, Sz138, Nn138, Hh138, Gg138⟩ := id V135
      have hin138 : ¬ ((4 : Int32) < 0 ∨ cl138.slots.size ≤ ((4 : Int32)).toNatClampNeg) := inb_of Sz138 ⟨by decide, by decide⟩
      obtain ⟨T139, h139, X139, e139, W139, st139⟩ := stC X135 hx hZ e135 Ar138 (j := (4 : Int32)) hin138 (g := (mkF m 210 #[.val (.int p0), .val (.int p1), .val (.int p2), .val (.int p3), .val (.int r_1), .val (.int r_2), .val (.int r_3), .val (.ref y_4), .val (.ref y_9), .val (.ref y_14), .val (.ref y_39), .val (.ref b44), .val (.int (4 : Int32))] [(.int (93 : Int32)), (.int (4 : Int32)), (.ref b44)])) rfl rfl (hb hby at_210)
      have V139 : Arv Z h139 b44 k44 .char (11 : Int32) [(.int (32 : Int32)), (.int (91 : Int32)), (.int (p1 &&& (255 : Int32))), (.int (own_hi p1 &&& (255 : Int32))), (.int (nar .char (93 : Int32))), (.int (0 : Int32)), (.int (0 : Int32)), (.int (0 : Int32)), (.int (0 : Int32)), (.int (0 : Int32)), (.int (0 : Int32))] (.int (0 : Int32)) := Arv.set Ar138 q138 Sz138 Nn138 Hh138 Gg138 (fits_nar_char _) W139 4 rfl (Nat.le_of_ble_eq_true rfl)
      rw [(show nar .char (93 : Int32) = (93 : Int32) from rfl)] at V139
      have Sa140 : Safe Z own_EL T39.vm h135 b44 := (Safe.arv hZ.alike V135 (by decide))
      have CH140 := CH136.wr W139 Sa140
      have CR140 := CHr.trans CR136 (CHr.wr W139 Sa140 CH136)
      have K141 : Keep h0 h139 [] := K137.wr W139 (Or.inr B44)
      have N139 := Fr.snoc X139 N135 G44
      refine own_st st139 ?_
      show own_Go p e below T139 (mkF m 211 #[.val (.int p0), .val (.int p1), .val (.int p2), .val (.int p3), .val (.int r_1), .val (.int r_2), .val (.int r_3), .val (.ref y_4), .val (.ref y_9), .val (.ref y_14), .val (.ref y_39), .val (.ref b44), .val (.int (4 : Int32))] []) _
      refine own_st (fun t_ k_ => XS.iload X139.here hx rfl (hb hby at_211) rfl (XS.iconst X139.here hx rfl (hb hby at_213) (XS.iadd X139.here hx rfl (hb hby at_214) rfl (XS.istore X139.here hx rfl (hb hby at_215) rfl (l' := #[.val (.int p0), .val (.int p1), .val (.int p2), .val (.int p3), .val (.int r_1), .val (.int r_2), .val (.int r_3), .val (.ref y_4), .val (.ref y_9), .val (.ref y_14), .val (.ref y_39), .val (.ref b44), .val (.int (5 : Int32))]) rfl (XS.aload X139.here hx rfl (hb hby at_217) rfl rfl (XS.iload X139.here hx rfl (hb hby at_219) rfl (XS.bipush X139.here hx rfl (hb hby at_221) k_))))))) ?_
      show own_Go p e below T139 (mkF m 223 #[.val (.int p0), .val (.int p1), .val (.int p2), .val (.int p3), .val (.int r_1), .val (.int r_2), .val (.int r_3), .val (.ref y_4), .val (.ref y_9), .val (.ref y_14), .val (.ref y_39), .val (.ref b44), .val (.int (5 : Int32))] [(.int (58 : Int32)), (.int (5 : Int32)), (.ref b44)]) _
      obtain ⟨cl142, Ar142, q142, Sz142, Nn142, Hh142, Gg142⟩ := id V139
      have hin142 : ¬ ((5 : Int32) < 0 ∨ cl142.slots.size ≤ ((5 : Int32)).toNatClampNeg) := inb_of Sz142 ⟨by decide, by decide⟩
      obtain ⟨T143, h143, X143, e143, W143, st143⟩ := stC X139 hx hZ e139 Ar142 (j := (5 : Int32)) hin142 (g := (mkF m 223 #[.val (.int p0), .val (.int p1), .val (.int p2), .val (.int p3), .val (.int r_1), .val (.int r_2), .val (.int r_3), .val (.ref y_4), .val (.ref y_9), .val (.ref y_14), .val (.ref y_39), .val (.ref b44), .val (.int (5 : Int32))] [(.int (58 : Int32)), (.int (5 : Int32)), (.ref b44)])) rfl rfl (hb hby at_223)
      have V143 : Arv Z h143 b44 k44 .char (11 : Int32) [(.int (32 : Int32)), (.int (91 : Int32)), (.int (p1 &&& (255 : Int32))), (.int (own_hi p1 &&& (255 : Int32))), (.int (93 : Int32)), (.int (nar .char (58 : Int32))), (.int (0 : Int32)), (.int (0 : Int32)), (.int (0 : Int32)), (.int (0 : Int32)), (.int (0 : Int32))] (.int (0 : Int32)) := Arv.set Ar142 q142 Sz142 Nn142 Hh142 Gg142 (fits_nar_char _) W143 5 rfl (Nat.le_of_ble_eq_true rfl)
      rw [(show nar .char (58 : Int32) = (58 : Int32) from rfl)] at V143
      have Sa144 : Safe Z own_EL T39.vm h139 b44 := (Safe.arv hZ.alike V139 (by decide))
      have CH144 := CH140.wr W143 Sa144
      have CR144 := CHr.trans CR140 (CHr.wr W143 Sa144 CH140)
      have K145 : Keep h0 h143 [] := K141.wr W143 (Or.inr B44)
      have N143 := Fr.snoc X143 N139 G44
      refine own_st st143 ?_
      show own_Go p e below T143 (mkF m 224 #[.val (.int p0), .val (.int p1), .val (.int p2), .val (.int p3), .val (.int r_1), .val (.int r_2), .val (.int r_3), .val (.ref y_4), .val (.ref y_9), .val (.ref y_14), .val (.ref y_39), .val (.ref b44), .val (.int (5 : Int32))] []) _
      refine own_st (fun t_ k_ => XS.iload X143.here hx rfl (hb hby at_224) rfl (XS.iconst X143.here hx rfl (hb hby at_226) (XS.iadd X143.here hx rfl (hb hby at_227) rfl (XS.istore X143.here hx rfl (hb hby at_228) rfl (l' := #[.val (.int p0), .val (.int p1), .val (.int p2), .val (.int p3), .val (.int r_1), .val (.int r_2), .val (.int r_3), .val (.ref y_4), .val (.ref y_9), .val (.ref y_14), .val (.ref y_39), .val (.ref b44), .val (.int (6 : Int32))]) rfl (XS.aload X143.here hx rfl (hb hby at_230) rfl rfl (XS.iload X143.here hx rfl (hb hby at_232) rfl (XS.bipush X143.here hx rfl (hb hby at_234) k_))))))) ?_
      show own_Go p e below T143 (mkF m 236 #[.val (.int p0), .val (.int p1), .val (.int p2), .val (.int p3), .val (.int r_1), .val (.int r_2), .val (.int r_3), .val (.ref y_4), .val (.ref y_9), .val (.ref y_14), .val (.ref y_39), .val (.ref b44), .val (.int (6 : Int32))] [(.int (32 : Int32)), (.int (6 : Int32)), (.ref b44)]) _
      obtain ⟨cl146, Ar146, q146, Sz146, Nn146, Hh146, Gg146⟩ := id V143
      have hin146 : ¬ ((6 : Int32) < 0 ∨ cl146.slots.size ≤ ((6 : Int32)).toNatClampNeg) := inb_of Sz146 ⟨by decide, by decide⟩
      obtain ⟨T147, h147, X147, e147, W147, st147⟩ := stC X143 hx hZ e143 Ar146 (j := (6 : Int32)) hin146 (g := (mkF m 236 #[.val (.int p0), .val (.int p1), .val (.int p2), .val (.int p3), .val (.int r_1), .val (.int r_2), .val (.int r_3), .val (.ref y_4), .val (.ref y_9), .val (.ref y_14), .val (.ref y_39), .val (.ref b44), .val (.int (6 : Int32))] [(.int (32 : Int32)), (.int (6 : Int32)), (.ref b44)])) rfl rfl (hb hby at_236)
      have V147 : Arv Z h147 b44 k44 .char (11 : Int32) [(.int (32 : Int32)), (.int (91 : Int32)), (.int (p1 &&& (255 : Int32))), (.int (own_hi p1 &&& (255 : Int32))), (.int (93 : Int32)), (.int (58 : Int32)), (.int (nar .char (32 : Int32))), (.int (0 : Int32)), (.int (0 : Int32)), (.int (0 : Int32)), (.int (0 : Int32))] (.int (0 : Int32)) := Arv.set Ar146 q146 Sz146 Nn146 Hh146 Gg146 (fits_nar_char _) W147 6 rfl (Nat.le_of_ble_eq_true rfl)
      rw [(show nar .char (32 : Int32) = (32 : Int32) from rfl)] at V147
      have Sa148 : Safe Z own_EL T39.vm h143 b44 := (Safe.arv hZ.alike V143 (by decide))
      have CH148 := CH144.wr W147 Sa148
      have CR148 := CHr.trans CR144 (CHr.wr W147 Sa148 CH144)
      have K149 : Keep h0 h147 [] := K145.wr W147 (Or.inr B44)
      have N147 := Fr.snoc X147 N143 G44
      refine own_st st147 ?_
      show own_Go p e below T147 (mkF m 237 #[.val (.int p0), .val (.int p1), .val (.int p2), .val (.int p3), .val (.int r_1), .val (.int r_2), .val (.int r_3), .val (.ref y_4), .val (.ref y_9), .val (.ref y_14), .val (.ref y_39), .val (.ref b44), .val (.int (6 : Int32))] []) _
      refine own_st (fun t_ k_ => XS.iload X147.here hx rfl (hb hby at_237) rfl (XS.iconst X147.here hx rfl (hb hby at_239) (XS.iadd X147.here hx rfl (hb hby at_240) rfl (XS.istore X147.here hx rfl (hb hby at_241) rfl (l' := #[.val (.int p0), .val (.int p1), .val (.int p2), .val (.int p3), .val (.int r_1), .val (.int r_2), .val (.int r_3), .val (.ref y_4), .val (.ref y_9), .val (.ref y_14), .val (.ref y_39), .val (.ref b44), .val (.int (7 : Int32))]) rfl (XS.iload X147.here hx rfl (hb hby at_243) rfl k_))))) ?_
      show own_Go p e below T147 (mkF m 245 #[.val (.int p0), .val (.int p1), .val (.int p2), .val (.int p3), .val (.int r_1), .val (.int r_2), .val (.int r_3), .val (.ref y_4), .val (.ref y_9), .val (.ref y_14), .val (.ref y_39), .val (.ref b44), .val (.int (7 : Int32))] [(.int r_3)]) _
      rcases hM2 with hA2 | hA2 | hA2
      · skip
        refine own_st (fun t_ k_ => XS.ifYes X147.here hx rfl (pc0 := 245) (pc' := 265) rfl (hb hby at_245) rfl ((if0 _ _).trans (flt (show ¬ ((0 : Int32) < r_3) from (by rw [hA2.1] <;> decide))).2.2.2) (by decide) (by decide) (XS.iload X147.here hx rfl (hb hby at_265) rfl (XS.iconst X147.here hx rfl (hb hby at_267) (XS.icmpYes X147.here hx rfl (pc0 := 268) (pc' := 291) rfl (hb hby at_268) rfl (flt (show ¬ ((1 : Int32) < r_3) from (by rw [hA2.1] <;> decide))).2.2.2 (by decide) (by decide) k_)))) ?_
        show own_Go p e below T147 (mkF m 291 #[.val (.int p0), .val (.int p1), .val (.int p2), .val (.int p3), .val (.int r_1), .val (.int r_2), .val (.int r_3), .val (.ref y_4), .val (.ref y_9), .val (.ref y_14), .val (.ref y_39), .val (.ref b44), .val (.int (7 : Int32))] []) _
        exact tail47 _ _ _ (7 : Int32) [(.int (0 : Int32)), (.int (0 : Int32)), (.int (0 : Int32)), (.int (0 : Int32))] X147 e147 N147 ((((((((Keep.refl h44 [b44]).wr W71 (Or.inl (List.mem_of_getElem? (i := 0) rfl))).wr W75 (Or.inl (List.mem_of_getElem? (i := 0) rfl))).wr W131 (Or.inl (List.mem_of_getElem? (i := 0) rfl))).wr W135 (Or.inl (List.mem_of_getElem? (i := 0) rfl))).wr W139 (Or.inl (List.mem_of_getElem? (i := 0) rfl))).wr W143 (Or.inl (List.mem_of_getElem? (i := 0) rfl))).wr W147 (Or.inl (List.mem_of_getElem? (i := 0) rfl))) (by rw [hA0.2, hA1.2, hA2.2]; exact V147) (by rw [hA0.2, hA1.2, hA2.2]; rfl)
      · skip
        refine own_st (fun t_ k_ => XS.ifNo X147.here hx rfl (hb hby at_245) rfl ((if0 _ _).trans (tlt (show (0 : Int32) < r_3 from (by rw [hA2.1] <;> decide))).2.2.2) (XS.aload X147.here hx rfl (hb hby at_248) rfl rfl (XS.iload X147.here hx rfl (hb hby at_250) rfl (XS.iloadN X147.here hx rfl (hb hby at_252) rfl (XS.sipush X147.here hx rfl (hb hby at_253) (XS.iand X147.here hx rfl (hb hby at_256) rfl (XS.i2c X147.here hx rfl (hb hby at_257) rfl k_))))))) ?_
        show own_Go p e below T147 (mkF m 258 #[.val (.int p0), .val (.int p1), .val (.int p2), .val (.int p3), .val (.int r_1), .val (.int r_2), .val (.int r_3), .val (.ref y_4), .val (.ref y_9), .val (.ref y_14), .val (.ref y_39), .val (.ref b44), .val (.int (7 : Int32))] [(.int ((p2 &&& (255 : Int32)).toUInt32.toUInt16.toUInt32.toInt32)), (.int (7 : Int32)), (.ref b44)]) _
        rw [own_i255 (own_m255 p2).1 (own_m255 p2).2]
        show own_Go p e below T147 (mkF m 258 #[.val (.int p0), .val (.int p1), .val (.int p2), .val (.int p3), .val (.int r_1), .val (.int r_2), .val (.int r_3), .val (.ref y_4), .val (.ref y_9), .val (.ref y_14), .val (.ref y_39), .val (.ref b44), .val (.int (7 : Int32))] [(.int (p2 &&& (255 : Int32))), (.int (7 : Int32)), (.ref b44)]) _
        obtain ⟨cl150, Ar150, q150, Sz150, Nn150, Hh150, Gg150⟩ := id V147
        have hin150 : ¬ ((7 : Int32) < 0 ∨ cl150.slots.size ≤ ((7 : Int32)).toNatClampNeg) := inb_of Sz150 ⟨by decide, by decide⟩
        obtain ⟨T151, h151, X151, e151, W151, st151⟩ := stC X147 hx hZ e147 Ar150 (j := (7 : Int32)) hin150 (g := (mkF m 258 #[.val (.int p0), .val (.int p1), .val (.int p2), .val (.int p3), .val (.int r_1), .val (.int r_2), .val (.int r_3), .val (.ref y_4), .val (.ref y_9), .val (.ref y_14), .val (.ref y_39), .val (.ref b44), .val (.int (7 : Int32))] [(.int (p2 &&& (255 : Int32))), (.int (7 : Int32)), (.ref b44)])) rfl rfl (hb hby at_258)
        have V151 : Arv Z h151 b44 k44 .char (11 : Int32) [(.int (32 : Int32)), (.int (91 : Int32)), (.int (p1 &&& (255 : Int32))), (.int (own_hi p1 &&& (255 : Int32))), (.int (93 : Int32)), (.int (58 : Int32)), (.int (32 : Int32)), (.int (nar .char (p2 &&& (255 : Int32)))), (.int (0 : Int32)), (.int (0 : Int32)), (.int (0 : Int32))] (.int (0 : Int32)) := Arv.set Ar150 q150 Sz150 Nn150 Hh150 Gg150 (fits_nar_char _) W151 7 rfl (Nat.le_of_ble_eq_true rfl)
        rw [own_nar (own_w255 p2)] at V151
        have Sa152 : Safe Z own_EL T39.vm h147 b44 := (Safe.arv hZ.alike V147 (by decide))
        have CH152 := CH148.wr W151 Sa152
        have CR152 := CHr.trans CR148 (CHr.wr W151 Sa152 CH148)
        have K153 : Keep h0 h151 [] := K149.wr W151 (Or.inr B44)
        have N151 := Fr.snoc X151 N147 G44
        refine own_st st151 ?_
        show own_Go p e below T151 (mkF m 259 #[.val (.int p0), .val (.int p1), .val (.int p2), .val (.int p3), .val (.int r_1), .val (.int r_2), .val (.int r_3), .val (.ref y_4), .val (.ref y_9), .val (.ref y_14), .val (.ref y_39), .val (.ref b44), .val (.int (7 : Int32))] []) _
        refine own_st (fun t_ k_ => XS.iload X151.here hx rfl (hb hby at_259) rfl (XS.iconst X151.here hx rfl (hb hby at_261) (XS.iadd X151.here hx rfl (hb hby at_262) rfl (XS.istore X151.here hx rfl (hb hby at_263) rfl (l' := #[.val (.int p0), .val (.int p1), .val (.int p2), .val (.int p3), .val (.int r_1), .val (.int r_2), .val (.int r_3), .val (.ref y_4), .val (.ref y_9), .val (.ref y_14), .val (.ref y_39), .val (.ref b44), .val (.int (8 : Int32))]) rfl (XS.iload X151.here hx rfl (hb hby at_265) rfl (XS.iconst X151.here hx rfl (hb hby at_267) (XS.icmpYes X151.here hx rfl (pc0 := 268) (pc' := 291) rfl (hb hby at_268) rfl (flt (show ¬ ((1 : Int32) < r_3) from (by rw [hA2.1] <;> decide))).2.2.2 (by decide) (by decide) k_))))))) ?_
        show own_Go p e below T151 (mkF m 291 #[.val (.int p0), .val (.int p1), .val (.int p2), .val (.int p3), .val (.int r_1), .val (.int r_2), .val (.int r_3), .val (.ref y_4), .val (.ref y_9), .val (.ref y_14), .val (.ref y_39), .val (.ref b44), .val (.int (8 : Int32))] []) _
        exact tail47 _ _ _ (8 : Int32) [(.int (0 : Int32)), (.int (0 : Int32)), (.int (0 : Int32))] X151 e151 N151 (((((((((Keep.refl h44 [b44]).wr W71 (Or.inl (List.mem_of_getElem? (i := 0) rfl))).wr W75 (Or.inl (List.mem_of_getElem? (i := 0) rfl))).wr W131 (Or.inl (List.mem_of_getElem? (i := 0) rfl))).wr W135 (Or.inl (List.mem_of_getElem? (i := 0) rfl))).wr W139 (Or.inl (List.mem_of_getElem? (i := 0) rfl))).wr W143 (Or.inl (List.mem_of_getElem? (i := 0) rfl))).wr W147 (Or.inl (List.mem_of_getElem? (i := 0) rfl))).wr W151 (Or.inl (List.mem_of_getElem? (i := 0) rfl))) (by rw [hA0.2, hA1.2, hA2.2]; exact V151) (by rw [hA0.2, hA1.2, hA2.2]; rfl)
      · skip
        refine own_st (fun t_ k_ => XS.ifNo X147.here hx rfl (hb hby at_245) rfl ((if0 _ _).trans (tlt (show (0 : Int32) < r_3 from (by rw [hA2.1] <;> decide))).2.2.2) (XS.aload X147.here hx rfl (hb hby at_248) rfl rfl (XS.iload X147.here hx rfl (hb hby at_250) rfl (XS.iloadN X147.here hx rfl (hb hby at_252) rfl (XS.sipush X147.here hx rfl (hb hby at_253) (XS.iand X147.here hx rfl (hb hby at_256) rfl (XS.i2c X147.here hx rfl (hb hby at_257) rfl k_))))))) ?_
        show own_Go p e below T147 (mkF m 258 #[.val (.int p0), .val (.int p1), .val (.int p2), .val (.int p3), .val (.int r_1), .val (.int r_2), .val (.int r_3), .val (.ref y_4), .val (.ref y_9), .val (.ref y_14), .val (.ref y_39), .val (.ref b44), .val (.int (7 : Int32))] [(.int ((p2 &&& (255 : Int32)).toUInt32.toUInt16.toUInt32.toInt32)), (.int (7 : Int32)), (.ref b44)]) _
        rw [own_i255 (own_m255 p2).1 (own_m255 p2).2]
        show own_Go p e below T147 (mkF m 258 #[.val (.int p0), .val (.int p1), .val (.int p2), .val (.int p3), .val (.int r_1), .val (.int r_2), .val (.int r_3), .val (.ref y_4), .val (.ref y_9), .val (.ref y_14), .val (.ref y_39), .val (.ref b44), .val (.int (7 : Int32))] [(.int (p2 &&& (255 : Int32))), (.int (7 : Int32)), (.ref b44)]) _
        obtain ⟨cl154, Ar154, q154, Sz154, Nn154, Hh154, Gg154⟩ := id V147
        have hin154 : ¬ ((7 : Int32) < 0 ∨ cl154.slots.size ≤ ((7 : Int32)).toNatClampNeg) := inb_of Sz154 ⟨by decide, by decide⟩
        obtain ⟨T155, h155, X155, e155, W155, st155⟩ := stC X147 hx hZ e147 Ar154 (j := (7 : Int32)) hin154 (g := (mkF m 258 #[.val (.int p0), .val (.int p1), .val (.int p2), .val (.int p3), .val (.int r_1), .val (.int r_2), .val (.int r_3), .val (.ref y_4), .val (.ref y_9), .val (.ref y_14), .val (.ref y_39), .val (.ref b44), .val (.int (7 : Int32))] [(.int (p2 &&& (255 : Int32))), (.int (7 : Int32)), (.ref b44)])) rfl rfl (hb hby at_258)
        have V155 : Arv Z h155 b44 k44 .char (11 : Int32) [(.int (32 : Int32)), (.int (91 : Int32)), (.int (p1 &&& (255 : Int32))), (.int (own_hi p1 &&& (255 : Int32))), (.int (93 : Int32)), (.int (58 : Int32)), (.int (32 : Int32)), (.int (nar .char (p2 &&& (255 : Int32)))), (.int (0 : Int32)), (.int (0 : Int32)), (.int (0 : Int32))] (.int (0 : Int32)) := Arv.set Ar154 q154 Sz154 Nn154 Hh154 Gg154 (fits_nar_char _) W155 7 rfl (Nat.le_of_ble_eq_true rfl)
        rw [own_nar (own_w255 p2)] at V155
        have Sa156 : Safe Z own_EL T39.vm h147 b44 := (Safe.arv hZ.alike V147 (by decide))
        have CH156 := CH148.wr W155 Sa156
        have CR156 := CHr.trans CR148 (CHr.wr W155 Sa156 CH148)
        have K157 : Keep h0 h155 [] := K149.wr W155 (Or.inr B44)
        have N155 := Fr.snoc X155 N147 G44
        refine own_st st155 ?_
        show own_Go p e below T155 (mkF m 259 #[.val (.int p0), .val (.int p1), .val (.int p2), .val (.int p3), .val (.int r_1), .val (.int r_2), .val (.int r_3), .val (.ref y_4), .val (.ref y_9), .val (.ref y_14), .val (.ref y_39), .val (.ref b44), .val (.int (7 : Int32))] []) _
        refine own_st (fun t_ k_ => XS.iload X155.here hx rfl (hb hby at_259) rfl (XS.iconst X155.here hx rfl (hb hby at_261) (XS.iadd X155.here hx rfl (hb hby at_262) rfl (XS.istore X155.here hx rfl (hb hby at_263) rfl (l' := #[.val (.int p0), .val (.int p1), .val (.int p2), .val (.int p3), .val (.int r_1), .val (.int r_2), .val (.int r_3), .val (.ref y_4), .val (.ref y_9), .val (.ref y_14), .val (.ref y_39), .val (.ref b44), .val (.int (8 : Int32))]) rfl (XS.iload X155.here hx rfl (hb hby at_265) rfl (XS.iconst X155.here hx rfl (hb hby at_267) (XS.icmpNo X155.here hx rfl (hb hby at_268) rfl (tlt (show (1 : Int32) < r_3 from (by rw [hA2.1] <;> decide))).2.2.2 (XS.aload X155.here hx rfl (hb hby at_271) rfl rfl (XS.iload X155.here hx rfl (hb hby at_273) rfl (XS.iloadN X155.here hx rfl (hb hby at_275) rfl k_)))))))))) ?_
        show own_Go p e below T155 (mkF m 276 #[.val (.int p0), .val (.int p1), .val (.int p2), .val (.int p3), .val (.int r_1), .val (.int r_2), .val (.int r_3), .val (.ref y_4), .val (.ref y_9), .val (.ref y_14), .val (.ref y_39), .val (.ref b44), .val (.int (8 : Int32))] [(.int p2), (.int (8 : Int32)), (.ref b44)]) _
        refine own_st (fun t_ k_ => XS.bipush X155.here hx rfl (hb hby at_276) (XS.iushr X155.here hx rfl (hb hby at_278) rfl (XS.sipush X155.here hx rfl (hb hby at_279) (XS.iand X155.here hx rfl (hb hby at_282) rfl (XS.i2c X155.here hx rfl (hb hby at_283) rfl k_))))) ?_
        show own_Go p e below T155 (mkF m 284 #[.val (.int p0), .val (.int p1), .val (.int p2), .val (.int p3), .val (.int r_1), .val (.int r_2), .val (.int r_3), .val (.ref y_4), .val (.ref y_9), .val (.ref y_14), .val (.ref y_39), .val (.ref b44), .val (.int (8 : Int32))] [(.int ((((p2.toUInt32 >>> ((8 : Int32) &&& 31).toUInt32).toInt32) &&& (255 : Int32)).toUInt32.toUInt16.toUInt32.toInt32)), (.int (8 : Int32)), (.ref b44)]) _
        rw [own_iu8 p2, own_i255 (own_m255 (own_hi p2)).1 (own_m255 (own_hi p2)).2]
        show own_Go p e below T155 (mkF m 284 #[.val (.int p0), .val (.int p1), .val (.int p2), .val (.int p3), .val (.int r_1), .val (.int r_2), .val (.int r_3), .val (.ref y_4), .val (.ref y_9), .val (.ref y_14), .val (.ref y_39), .val (.ref b44), .val (.int (8 : Int32))] [(.int (own_hi p2 &&& (255 : Int32))), (.int (8 : Int32)), (.ref b44)]) _
        obtain ⟨cl158, Ar158, q158, Sz158, Nn158, Hh158, Gg158⟩ := id V155
        have hin158 : ¬ ((8 : Int32) < 0 ∨ cl158.slots.size ≤ ((8 : Int32)).toNatClampNeg) := inb_of Sz158 ⟨by decide, by decide⟩
        obtain ⟨T159, h159, X159, e159, W159, st159⟩ := stC X155 hx hZ e155 Ar158 (j := (8 : Int32)) hin158 (g := (mkF m 284 #[.val (.int p0), .val (.int p1), .val (.int p2), .val (.int p3), .val (.int r_1), .val (.int r_2), .val (.int r_3), .val (.ref y_4), .val (.ref y_9), .val (.ref y_14), .val (.ref y_39), .val (.ref b44), .val (.int (8 : Int32))] [(.int (own_hi p2 &&& (255 : Int32))), (.int (8 : Int32)), (.ref b44)])) rfl rfl (hb hby at_284)
        have V159 : Arv Z h159 b44 k44 .char (11 : Int32) [(.int (32 : Int32)), (.int (91 : Int32)), (.int (p1 &&& (255 : Int32))), (.int (own_hi p1 &&& (255 : Int32))), (.int (93 : Int32)), (.int (58 : Int32)), (.int (32 : Int32)), (.int (p2 &&& (255 : Int32))), (.int (nar .char (own_hi p2 &&& (255 : Int32)))), (.int (0 : Int32)), (.int (0 : Int32))] (.int (0 : Int32)) := Arv.set Ar158 q158 Sz158 Nn158 Hh158 Gg158 (fits_nar_char _) W159 8 rfl (Nat.le_of_ble_eq_true rfl)
        rw [own_nar (own_w255 (own_hi p2))] at V159
        have Sa160 : Safe Z own_EL T39.vm h155 b44 := (Safe.arv hZ.alike V155 (by decide))
        have CH160 := CH156.wr W159 Sa160
        have CR160 := CHr.trans CR156 (CHr.wr W159 Sa160 CH156)
        have K161 : Keep h0 h159 [] := K157.wr W159 (Or.inr B44)
        have N159 := Fr.snoc X159 N155 G44
        refine own_st st159 ?_
        show own_Go p e below T159 (mkF m 285 #[.val (.int p0), .val (.int p1), .val (.int p2), .val (.int p3), .val (.int r_1), .val (.int r_2), .val (.int r_3), .val (.ref y_4), .val (.ref y_9), .val (.ref y_14), .val (.ref y_39), .val (.ref b44), .val (.int (8 : Int32))] []) _
        refine own_st (fun t_ k_ => XS.iload X159.here hx rfl (hb hby at_285) rfl (XS.iconst X159.here hx rfl (hb hby at_287) (XS.iadd X159.here hx rfl (hb hby at_288) rfl (XS.istore X159.here hx rfl (hb hby at_289) rfl (l' := #[.val (.int p0), .val (.int p1), .val (.int p2), .val (.int p3), .val (.int r_1), .val (.int r_2), .val (.int r_3), .val (.ref y_4), .val (.ref y_9), .val (.ref y_14), .val (.ref y_39), .val (.ref b44), .val (.int (9 : Int32))]) rfl k_)))) ?_
        show own_Go p e below T159 (mkF m 291 #[.val (.int p0), .val (.int p1), .val (.int p2), .val (.int p3), .val (.int r_1), .val (.int r_2), .val (.int r_3), .val (.ref y_4), .val (.ref y_9), .val (.ref y_14), .val (.ref y_39), .val (.ref b44), .val (.int (9 : Int32))] []) _
        exact tail47 _ _ _ (9 : Int32) [(.int (0 : Int32)), (.int (0 : Int32))] X159 e159 N159 ((((((((((Keep.refl h44 [b44]).wr W71 (Or.inl (List.mem_of_getElem? (i := 0) rfl))).wr W75 (Or.inl (List.mem_of_getElem? (i := 0) rfl))).wr W131 (Or.inl (List.mem_of_getElem? (i := 0) rfl))).wr W135 (Or.inl (List.mem_of_getElem? (i := 0) rfl))).wr W139 (Or.inl (List.mem_of_getElem? (i := 0) rfl))).wr W143 (Or.inl (List.mem_of_getElem? (i := 0) rfl))).wr W147 (Or.inl (List.mem_of_getElem? (i := 0) rfl))).wr W155 (Or.inl (List.mem_of_getElem? (i := 0) rfl))).wr W159 (Or.inl (List.mem_of_getElem? (i := 0) rfl))) (by rw [hA0.2, hA1.2, hA2.2]; exact V159) (by rw [hA0.2, hA1.2, hA2.2]; rfl)
  · skip
    refine own_st (fun t_ k_ => XS.ifNo X44.here hx rfl (hb hby at_84) rfl ((if0 _ _).trans (tlt (show (0 : Int32) < r_1 from (by rw [hA0.1] <;> decide))).2.2.2) (XS.aload X44.here hx rfl (hb hby at_87) rfl rfl (XS.iload X44.here hx rfl (hb hby at_89) rfl (XS.iloadN X44.here hx rfl (hb hby at_91) rfl (XS.sipush X44.here hx rfl (hb hby at_92) (XS.iand X44.here hx rfl (hb hby at_95) rfl (XS.i2c X44.here hx rfl (hb hby at_96) rfl k_))))))) ?_
    show own_Go p e below T44 (mkF m 97 #[.val (.int p0), .val (.int p1), .val (.int p2), .val (.int p3), .val (.int r_1), .val (.int r_2), .val (.int r_3), .val (.ref y_4), .val (.ref y_9), .val (.ref y_14), .val (.ref y_39), .val (.ref b44), .val (.int (0 : Int32))] [(.int ((p0 &&& (255 : Int32)).toUInt32.toUInt16.toUInt32.toInt32)), (.int (0 : Int32)), (.ref b44)]) _
    rw [own_i255 (own_m255 p0).1 (own_m255 p0).2]
    show own_Go p e below T44 (mkF m 97 #[.val (.int p0), .val (.int p1), .val (.int p2), .val (.int p3), .val (.int r_1), .val (.int r_2), .val (.int r_3), .val (.ref y_4), .val (.ref y_9), .val (.ref y_14), .val (.ref y_39), .val (.ref b44), .val (.int (0 : Int32))] [(.int (p0 &&& (255 : Int32))), (.int (0 : Int32)), (.ref b44)]) _
    obtain ⟨cl162, Ar162, q162, Sz162, Nn162, Hh162, Gg162⟩ := id V44
    have hin162 : ¬ ((0 : Int32) < 0 ∨ cl162.slots.size ≤ ((0 : Int32)).toNatClampNeg) := inb_of Sz162 ⟨by decide, by decide⟩
    obtain ⟨T163, h163, X163, e163, W163, st163⟩ := stC X44 hx hZ e44 Ar162 (j := (0 : Int32)) hin162 (g := (mkF m 97 #[.val (.int p0), .val (.int p1), .val (.int p2), .val (.int p3), .val (.int r_1), .val (.int r_2), .val (.int r_3), .val (.ref y_4), .val (.ref y_9), .val (.ref y_14), .val (.ref y_39), .val (.ref b44), .val (.int (0 : Int32))] [(.int (p0 &&& (255 : Int32))), (.int (0 : Int32)), (.ref b44)])) rfl rfl (hb hby at_97)
    have V163 : Arv Z h163 b44 k44 .char (11 : Int32) [(.int (nar .char (p0 &&& (255 : Int32)))), (.int (0 : Int32)), (.int (0 : Int32)), (.int (0 : Int32)), (.int (0 : Int32)), (.int (0 : Int32)), (.int (0 : Int32)), (.int (0 : Int32)), (.int (0 : Int32)), (.int (0 : Int32)), (.int (0 : Int32))] (.int (0 : Int32)) := Arv.set Ar162 q162 Sz162 Nn162 Hh162 Gg162 (fits_nar_char _) W163 0 rfl (Nat.le_of_ble_eq_true rfl)
    rw [own_nar (own_w255 p0)] at V163
    have Sa164 : Safe Z own_EL T39.vm h44 b44 := (Safe.arv hZ.alike V44 (by decide))
    have CH164 := CH45.wr W163 Sa164
    have CR164 := CHr.trans CR45 (CHr.wr W163 Sa164 CH45)
    have K165 : Keep h0 h163 [] := K46.wr W163 (Or.inr B44)
    have N163 := Fr.snoc X163 N39 G44
    refine own_st st163 ?_
    show own_Go p e below T163 (mkF m 98 #[.val (.int p0), .val (.int p1), .val (.int p2), .val (.int p3), .val (.int r_1), .val (.int r_2), .val (.int r_3), .val (.ref y_4), .val (.ref y_9), .val (.ref y_14), .val (.ref y_39), .val (.ref b44), .val (.int (0 : Int32))] []) _
    refine own_st (fun t_ k_ => XS.iload X163.here hx rfl (hb hby at_98) rfl (XS.iconst X163.here hx rfl (hb hby at_100) (XS.iadd X163.here hx rfl (hb hby at_101) rfl (XS.istore X163.here hx rfl (hb hby at_102) rfl (l' := #[.val (.int p0), .val (.int p1), .val (.int p2), .val (.int p3), .val (.int r_1), .val (.int r_2), .val (.int r_3), .val (.ref y_4), .val (.ref y_9), .val (.ref y_14), .val (.ref y_39), .val (.ref b44), .val (.int (1 : Int32))]) rfl (XS.iload X163.here hx rfl (hb hby at_104) rfl (XS.iconst X163.here hx rfl (hb hby at_106) (XS.icmpYes X163.here hx rfl (pc0 := 107) (pc' := 130) rfl (hb hby at_107) rfl (flt (show ¬ ((1 : Int32) < r_1) from (by rw [hA0.1] <;> decide))).2.2.2 (by decide) (by decide) (XS.aload X163.here hx rfl (hb hby at_130) rfl rfl (XS.iload X163.here hx rfl (hb hby at_132) rfl (XS.bipush X163.here hx rfl (hb hby at_134) k_)))))))))) ?_
    show own_Go p e below T163 (mkF m 136 #[.val (.int p0), .val (.int p1), .val (.int p2), .val (.int p3), .val (.int r_1), .val (.int r_2), .val (.int r_3), .val (.ref y_4), .val (.ref y_9), .val (.ref y_14), .val (.ref y_39), .val (.ref b44), .val (.int (1 : Int32))] [(.int (32 : Int32)), (.int (1 : Int32)), (.ref b44)]) _
    obtain ⟨cl166, Ar166, q166, Sz166, Nn166, Hh166, Gg166⟩ := id V163
    have hin166 : ¬ ((1 : Int32) < 0 ∨ cl166.slots.size ≤ ((1 : Int32)).toNatClampNeg) := inb_of Sz166 ⟨by decide, by decide⟩
    obtain ⟨T167, h167, X167, e167, W167, st167⟩ := stC X163 hx hZ e163 Ar166 (j := (1 : Int32)) hin166 (g := (mkF m 136 #[.val (.int p0), .val (.int p1), .val (.int p2), .val (.int p3), .val (.int r_1), .val (.int r_2), .val (.int r_3), .val (.ref y_4), .val (.ref y_9), .val (.ref y_14), .val (.ref y_39), .val (.ref b44), .val (.int (1 : Int32))] [(.int (32 : Int32)), (.int (1 : Int32)), (.ref b44)])) rfl rfl (hb hby at_136)
    have V167 : Arv Z h167 b44 k44 .char (11 : Int32) [(.int (p0 &&& (255 : Int32))), (.int (nar .char (32 : Int32))), (.int (0 : Int32)), (.int (0 : Int32)), (.int (0 : Int32)), (.int (0 : Int32)), (.int (0 : Int32)), (.int (0 : Int32)), (.int (0 : Int32)), (.int (0 : Int32)), (.int (0 : Int32))] (.int (0 : Int32)) := Arv.set Ar166 q166 Sz166 Nn166 Hh166 Gg166 (fits_nar_char _) W167 1 rfl (Nat.le_of_ble_eq_true rfl)
    rw [(show nar .char (32 : Int32) = (32 : Int32) from rfl)] at V167
    have Sa168 : Safe Z own_EL T39.vm h163 b44 := (Safe.arv hZ.alike V163 (by decide))
    have CH168 := CH164.wr W167 Sa168
    have CR168 := CHr.trans CR164 (CHr.wr W167 Sa168 CH164)
    have K169 : Keep h0 h167 [] := K165.wr W167 (Or.inr B44)
    have N167 := Fr.snoc X167 N163 G44
    refine own_st st167 ?_
    show own_Go p e below T167 (mkF m 137 #[.val (.int p0), .val (.int p1), .val (.int p2), .val (.int p3), .val (.int r_1), .val (.int r_2), .val (.int r_3), .val (.ref y_4), .val (.ref y_9), .val (.ref y_14), .val (.ref y_39), .val (.ref b44), .val (.int (1 : Int32))] []) _
    refine own_st (fun t_ k_ => XS.iload X167.here hx rfl (hb hby at_137) rfl (XS.iconst X167.here hx rfl (hb hby at_139) (XS.iadd X167.here hx rfl (hb hby at_140) rfl (XS.istore X167.here hx rfl (hb hby at_141) rfl (l' := #[.val (.int p0), .val (.int p1), .val (.int p2), .val (.int p3), .val (.int r_1), .val (.int r_2), .val (.int r_3), .val (.ref y_4), .val (.ref y_9), .val (.ref y_14), .val (.ref y_39), .val (.ref b44), .val (.int (2 : Int32))]) rfl (XS.aload X167.here hx rfl (hb hby at_143) rfl rfl (XS.iload X167.here hx rfl (hb hby at_145) rfl (XS.bipush X167.here hx rfl (hb hby at_147) k_))))))) ?_
    show own_Go p e below T167 (mkF m 149 #[.val (.int p0), .val (.int p1), .val (.int p2), .val (.int p3), .val (.int r_1), .val (.int r_2), .val (.int r_3), .val (.ref y_4), .val (.ref y_9), .val (.ref y_14), .val (.ref y_39), .val (.ref b44), .val (.int (2 : Int32))] [(.int (91 : Int32)), (.int (2 : Int32)), (.ref b44)]) _
    obtain ⟨cl170, Ar170, q170, Sz170, Nn170, Hh170, Gg170⟩ := id V167
    have hin170 : ¬ ((2 : Int32) < 0 ∨ cl170.slots.size ≤ ((2 : Int32)).toNatClampNeg) := inb_of Sz170 ⟨by decide, by decide⟩
    obtain ⟨T171, h171, X171, e171, W171, st171⟩ := stC X167 hx hZ e167 Ar170 (j := (2 : Int32)) hin170 (g := (mkF m 149 #[.val (.int p0), .val (.int p1), .val (.int p2), .val (.int p3), .val (.int r_1), .val (.int r_2), .val (.int r_3), .val (.ref y_4), .val (.ref y_9), .val (.ref y_14), .val (.ref y_39), .val (.ref b44), .val (.int (2 : Int32))] [(.int (91 : Int32)), (.int (2 : Int32)), (.ref b44)])) rfl rfl (hb hby at_149)
    have V171 : Arv Z h171 b44 k44 .char (11 : Int32) [(.int (p0 &&& (255 : Int32))), (.int (32 : Int32)), (.int (nar .char (91 : Int32))), (.int (0 : Int32)), (.int (0 : Int32)), (.int (0 : Int32)), (.int (0 : Int32)), (.int (0 : Int32)), (.int (0 : Int32)), (.int (0 : Int32)), (.int (0 : Int32))] (.int (0 : Int32)) := Arv.set Ar170 q170 Sz170 Nn170 Hh170 Gg170 (fits_nar_char _) W171 2 rfl (Nat.le_of_ble_eq_true rfl)
    rw [(show nar .char (91 : Int32) = (91 : Int32) from rfl)] at V171
    have Sa172 : Safe Z own_EL T39.vm h167 b44 := (Safe.arv hZ.alike V167 (by decide))
    have CH172 := CH168.wr W171 Sa172
    have CR172 := CHr.trans CR168 (CHr.wr W171 Sa172 CH168)
    have K173 : Keep h0 h171 [] := K169.wr W171 (Or.inr B44)
    have N171 := Fr.snoc X171 N167 G44
    refine own_st st171 ?_
    show own_Go p e below T171 (mkF m 150 #[.val (.int p0), .val (.int p1), .val (.int p2), .val (.int p3), .val (.int r_1), .val (.int r_2), .val (.int r_3), .val (.ref y_4), .val (.ref y_9), .val (.ref y_14), .val (.ref y_39), .val (.ref b44), .val (.int (2 : Int32))] []) _
    refine own_st (fun t_ k_ => XS.iload X171.here hx rfl (hb hby at_150) rfl (XS.iconst X171.here hx rfl (hb hby at_152) (XS.iadd X171.here hx rfl (hb hby at_153) rfl (XS.istore X171.here hx rfl (hb hby at_154) rfl (l' := #[.val (.int p0), .val (.int p1), .val (.int p2), .val (.int p3), .val (.int r_1), .val (.int r_2), .val (.int r_3), .val (.ref y_4), .val (.ref y_9), .val (.ref y_14), .val (.ref y_39), .val (.ref b44), .val (.int (3 : Int32))]) rfl (XS.iload X171.here hx rfl (hb hby at_156) rfl k_))))) ?_
    show own_Go p e below T171 (mkF m 158 #[.val (.int p0), .val (.int p1), .val (.int p2), .val (.int p3), .val (.int r_1), .val (.int r_2), .val (.int r_3), .val (.ref y_4), .val (.ref y_9), .val (.ref y_14), .val (.ref y_39), .val (.ref b44), .val (.int (3 : Int32))] [(.int r_2)]) _
    rcases hM1 with hA1 | hA1 | hA1
    · skip
      refine own_st (fun t_ k_ => XS.ifYes X171.here hx rfl (pc0 := 158) (pc' := 178) rfl (hb hby at_158) rfl ((if0 _ _).trans (flt (show ¬ ((0 : Int32) < r_2) from (by rw [hA1.1] <;> decide))).2.2.2) (by decide) (by decide) (XS.iload X171.here hx rfl (hb hby at_178) rfl (XS.iconst X171.here hx rfl (hb hby at_180) (XS.icmpYes X171.here hx rfl (pc0 := 181) (pc' := 204) rfl (hb hby at_181) rfl (flt (show ¬ ((1 : Int32) < r_2) from (by rw [hA1.1] <;> decide))).2.2.2 (by decide) (by decide) (XS.aload X171.here hx rfl (hb hby at_204) rfl rfl (XS.iload X171.here hx rfl (hb hby at_206) rfl (XS.bipush X171.here hx rfl (hb hby at_208) k_))))))) ?_
      show own_Go p e below T171 (mkF m 210 #[.val (.int p0), .val (.int p1), .val (.int p2), .val (.int p3), .val (.int r_1), .val (.int r_2), .val (.int r_3), .val (.ref y_4), .val (.ref y_9), .val (.ref y_14), .val (.ref y_39), .val (.ref b44), .val (.int (3 : Int32))] [(.int (93 : Int32)), (.int (3 : Int32)), (.ref b44)]) _
      obtain ⟨cl174, Ar174, q174, Sz174, Nn174, Hh174, Gg174⟩ := id V171
      have hin174 : ¬ ((3 : Int32) < 0 ∨ cl174.slots.size ≤ ((3 : Int32)).toNatClampNeg) := inb_of Sz174 ⟨by decide, by decide⟩
      obtain ⟨T175, h175, X175, e175, W175, st175⟩ := stC X171 hx hZ e171 Ar174 (j := (3 : Int32)) hin174 (g := (mkF m 210 #[.val (.int p0), .val (.int p1), .val (.int p2), .val (.int p3), .val (.int r_1), .val (.int r_2), .val (.int r_3), .val (.ref y_4), .val (.ref y_9), .val (.ref y_14), .val (.ref y_39), .val (.ref b44), .val (.int (3 : Int32))] [(.int (93 : Int32)), (.int (3 : Int32)), (.ref b44)])) rfl rfl (hb hby at_210)
      have V175 : Arv Z h175 b44 k44 .char (11 : Int32) [(.int (p0 &&& (255 : Int32))), (.int (32 : Int32)), (.int (91 : Int32)), (.int (nar .char (93 : Int32))), (.int (0 : Int32)), (.int (0 : Int32)), (.int (0 : Int32)), (.int (0 : Int32)), (.int (0 : Int32)), (.int (0 : Int32)), (.int (0 : Int32))] (.int (0 : Int32)) := Arv.set Ar174 q174 Sz174 Nn174 Hh174 Gg174 (fits_nar_char _) W175 3 rfl (Nat.le_of_ble_eq_true rfl)
      rw [(show nar .char (93 : Int32) = (93 : Int32) from rfl)] at V175
      have Sa176 : Safe Z own_EL T39.vm h171 b44 := (Safe.arv hZ.alike V171 (by decide))
      have CH176 := CH172.wr W175 Sa176
      have CR176 := CHr.trans CR172 (CHr.wr W175 Sa176 CH172)
      have K177 : Keep h0 h175 [] := K173.wr W175 (Or.inr B44)
      have N175 := Fr.snoc X175 N171 G44
      refine own_st st175 ?_
      show own_Go p e below T175 (mkF m 211 #[.val (.int p0), .val (.int p1), .val (.int p2), .val (.int p3), .val (.int r_1), .val (.int r_2), .val (.int r_3), .val (.ref y_4), .val (.ref y_9), .val (.ref y_14), .val (.ref y_39), .val (.ref b44), .val (.int (3 : Int32))] []) _
      refine own_st (fun t_ k_ => XS.iload X175.here hx rfl (hb hby at_211) rfl (XS.iconst X175.here hx rfl (hb hby at_213) (XS.iadd X175.here hx rfl (hb hby at_214) rfl (XS.istore X175.here hx rfl (hb hby at_215) rfl (l' := #[.val (.int p0), .val (.int p1), .val (.int p2), .val (.int p3), .val (.int r_1), .val (.int r_2), .val (.int r_3), .val (.ref y_4), .val (.ref y_9), .val (.ref y_14), .val (.ref y_39), .val (.ref b44), .val (.int (4 : Int32))]) rfl (XS.aload X175.here hx rfl (hb hby at_217) rfl rfl (XS.iload X175.here hx rfl (hb hby at_219) rfl (XS.bipush X175.here hx rfl (hb hby at_221) k_))))))) ?_
      show own_Go p e below T175 (mkF m 223 #[.val (.int p0), .val (.int p1), .val (.int p2), .val (.int p3), .val (.int r_1), .val (.int r_2), .val (.int r_3), .val (.ref y_4), .val (.ref y_9), .val (.ref y_14), .val (.ref y_39), .val (.ref b44), .val (.int (4 : Int32))] [(.int (58 : Int32)), (.int (4 : Int32)), (.ref b44)]) _
      obtain ⟨cl178, Ar178, q178, Sz178, Nn178, Hh178, Gg178⟩ := id V175
      have hin178 : ¬ ((4 : Int32) < 0 ∨ cl178.slots.size ≤ ((4 : Int32)).toNatClampNeg) := inb_of Sz178 ⟨by decide, by decide⟩
      obtain ⟨T179, h179, X179, e179, W179, st179⟩ := stC X175 hx hZ e175 Ar178 (j := (4 : Int32)) hin178 (g := (mkF m 223 #[.val (.int p0), .val (.int p1), .val (.int p2), .val (.int p3), .val (.int r_1), .val (.int r_2), .val (.int r_3), .val (.ref y_4), .val (.ref y_9), .val (.ref y_14), .val (.ref y_39), .val (.ref b44), .val (.int (4 : Int32))] [(.int (58 : Int32)), (.int (4 : Int32)), (.ref b44)])) rfl rfl (hb hby at_223)
      have V179 : Arv Z h179 b44 k44 .char (11 : Int32) [(.int (p0 &&& (255 : Int32))), (.int (32 : Int32)), (.int (91 : Int32)), (.int (93 : Int32)), (.int (nar .char (58 : Int32))), (.int (0 : Int32)), (.int (0 : Int32)), (.int (0 : Int32)), (.int (0 : Int32)), (.int (0 : Int32)), (.int (0 : Int32))] (.int (0 : Int32)) := Arv.set Ar178 q178 Sz178 Nn178 Hh178 Gg178 (fits_nar_char _) W179 4 rfl (Nat.le_of_ble_eq_true rfl)
      rw [(show nar .char (58 : Int32) = (58 : Int32) from rfl)] at V179
      have Sa180 : Safe Z own_EL T39.vm h175 b44 := (Safe.arv hZ.alike V175 (by decide))
      have CH180 := CH176.wr W179 Sa180
      have CR180 := CHr.trans CR176 (CHr.wr W179 Sa180 CH176)
      have K181 : Keep h0 h179 [] := K177.wr W179 (Or.inr B44)
      have N179 := Fr.snoc X179 N175 G44
      refine own_st st179 ?_
      show own_Go p e below T179 (mkF m 224 #[.val (.int p0), .val (.int p1), .val (.int p2), .val (.int p3), .val (.int r_1), .val (.int r_2), .val (.int r_3), .val (.ref y_4), .val (.ref y_9), .val (.ref y_14), .val (.ref y_39), .val (.ref b44), .val (.int (4 : Int32))] []) _
      refine own_st (fun t_ k_ => XS.iload X179.here hx rfl (hb hby at_224) rfl (XS.iconst X179.here hx rfl (hb hby at_226) (XS.iadd X179.here hx rfl (hb hby at_227) rfl (XS.istore X179.here hx rfl (hb hby at_228) rfl (l' := #[.val (.int p0), .val (.int p1), .val (.int p2), .val (.int p3), .val (.int r_1), .val (.int r_2), .val (.int r_3), .val (.ref y_4), .val (.ref y_9), .val (.ref y_14), .val (.ref y_39), .val (.ref b44), .val (.int (5 : Int32))]) rfl (XS.aload X179.here hx rfl (hb hby at_230) rfl rfl (XS.iload X179.here hx rfl (hb hby at_232) rfl (XS.bipush X179.here hx rfl (hb hby at_234) k_))))))) ?_
      show own_Go p e below T179 (mkF m 236 #[.val (.int p0), .val (.int p1), .val (.int p2), .val (.int p3), .val (.int r_1), .val (.int r_2), .val (.int r_3), .val (.ref y_4), .val (.ref y_9), .val (.ref y_14), .val (.ref y_39), .val (.ref b44), .val (.int (5 : Int32))] [(.int (32 : Int32)), (.int (5 : Int32)), (.ref b44)]) _
      obtain ⟨cl182, Ar182, q182, Sz182, Nn182, Hh182, Gg182⟩ := id V179
      have hin182 : ¬ ((5 : Int32) < 0 ∨ cl182.slots.size ≤ ((5 : Int32)).toNatClampNeg) := inb_of Sz182 ⟨by decide, by decide⟩
      obtain ⟨T183, h183, X183, e183, W183, st183⟩ := stC X179 hx hZ e179 Ar182 (j := (5 : Int32)) hin182 (g := (mkF m 236 #[.val (.int p0), .val (.int p1), .val (.int p2), .val (.int p3), .val (.int r_1), .val (.int r_2), .val (.int r_3), .val (.ref y_4), .val (.ref y_9), .val (.ref y_14), .val (.ref y_39), .val (.ref b44), .val (.int (5 : Int32))] [(.int (32 : Int32)), (.int (5 : Int32)), (.ref b44)])) rfl rfl (hb hby at_236)
      have V183 : Arv Z h183 b44 k44 .char (11 : Int32) [(.int (p0 &&& (255 : Int32))), (.int (32 : Int32)), (.int (91 : Int32)), (.int (93 : Int32)), (.int (58 : Int32)), (.int (nar .char (32 : Int32))), (.int (0 : Int32)), (.int (0 : Int32)), (.int (0 : Int32)), (.int (0 : Int32)), (.int (0 : Int32))] (.int (0 : Int32)) := Arv.set Ar182 q182 Sz182 Nn182 Hh182 Gg182 (fits_nar_char _) W183 5 rfl (Nat.le_of_ble_eq_true rfl)
      rw [(show nar .char (32 : Int32) = (32 : Int32) from rfl)] at V183
      have Sa184 : Safe Z own_EL T39.vm h179 b44 := (Safe.arv hZ.alike V179 (by decide))
      have CH184 := CH180.wr W183 Sa184
      have CR184 := CHr.trans CR180 (CHr.wr W183 Sa184 CH180)
      have K185 : Keep h0 h183 [] := K181.wr W183 (Or.inr B44)
      have N183 := Fr.snoc X183 N179 G44
      refine own_st st183 ?_
      show own_Go p e below T183 (mkF m 237 #[.val (.int p0), .val (.int p1), .val (.int p2), .val (.int p3), .val (.int r_1), .val (.int r_2), .val (.int r_3), .val (.ref y_4), .val (.ref y_9), .val (.ref y_14), .val (.ref y_39), .val (.ref b44), .val (.int (5 : Int32))] []) _
      refine own_st (fun t_ k_ => XS.iload X183.here hx rfl (hb hby at_237) rfl (XS.iconst X183.here hx rfl (hb hby at_239) (XS.iadd X183.here hx rfl (hb hby at_240) rfl (XS.istore X183.here hx rfl (hb hby at_241) rfl (l' := #[.val (.int p0), .val (.int p1), .val (.int p2), .val (.int p3), .val (.int r_1), .val (.int r_2), .val (.int r_3), .val (.ref y_4), .val (.ref y_9), .val (.ref y_14), .val (.ref y_39), .val (.ref b44), .val (.int (6 : Int32))]) rfl (XS.iload X183.here hx rfl (hb hby at_243) rfl k_))))) ?_
      show own_Go p e below T183 (mkF m 245 #[.val (.int p0), .val (.int p1), .val (.int p2), .val (.int p3), .val (.int r_1), .val (.int r_2), .val (.int r_3), .val (.ref y_4), .val (.ref y_9), .val (.ref y_14), .val (.ref y_39), .val (.ref b44), .val (.int (6 : Int32))] [(.int r_3)]) _
      rcases hM2 with hA2 | hA2 | hA2
      · skip
        refine own_st (fun t_ k_ => XS.ifYes X183.here hx rfl (pc0 := 245) (pc' := 265) rfl (hb hby at_245) rfl ((if0 _ _).trans (flt (show ¬ ((0 : Int32) < r_3) from (by rw [hA2.1] <;> decide))).2.2.2) (by decide) (by decide) (XS.iload X183.here hx rfl (hb hby at_265) rfl (XS.iconst X183.here hx rfl (hb hby at_267) (XS.icmpYes X183.here hx rfl (pc0 := 268) (pc' := 291) rfl (hb hby at_268) rfl (flt (show ¬ ((1 : Int32) < r_3) from (by rw [hA2.1] <;> decide))).2.2.2 (by decide) (by decide) k_)))) ?_
        show own_Go p e below T183 (mkF m 291 #[.val (.int p0), .val (.int p1), .val (.int p2), .val (.int p3), .val (.int r_1), .val (.int r_2), .val (.int r_3), .val (.ref y_4), .val (.ref y_9), .val (.ref y_14), .val (.ref y_39), .val (.ref b44), .val (.int (6 : Int32))] []) _
        exact tail47 _ _ _ (6 : Int32) [(.int (0 : Int32)), (.int (0 : Int32)), (.int (0 : Int32)), (.int (0 : Int32)), (.int (0 : Int32))] X183 e183 N183 (((((((Keep.refl h44 [b44]).wr W163 (Or.inl (List.mem_of_getElem? (i := 0) rfl))).wr W167 (Or.inl (List.mem_of_getElem? (i := 0) rfl))).wr W171 (Or.inl (List.mem_of_getElem? (i := 0) rfl))).wr W175 (Or.inl (List.mem_of_getElem? (i := 0) rfl))).wr W179 (Or.inl (List.mem_of_getElem? (i := 0) rfl))).wr W183 (Or.inl (List.mem_of_getElem? (i := 0) rfl))) (by rw [hA0.2, hA1.2, hA2.2]; exact V183) (by rw [hA0.2, hA1.2, hA2.2]; rfl)
      · skip
        refine own_st (fun t_ k_ => XS.ifNo X183.here hx rfl (hb hby at_245) rfl ((if0 _ _).trans (tlt (show (0 : Int32) < r_3 from (by rw [hA2.1] <;> decide))).2.2.2) (XS.aload X183.here hx rfl (hb hby at_248) rfl rfl (XS.iload X183.here hx rfl (hb hby at_250) rfl (XS.iloadN X183.here hx rfl (hb hby at_252) rfl (XS.sipush X183.here hx rfl (hb hby at_253) (XS.iand X183.here hx rfl (hb hby at_256) rfl (XS.i2c X183.here hx rfl (hb hby at_257) rfl k_))))))) ?_
        show own_Go p e below T183 (mkF m 258 #[.val (.int p0), .val (.int p1), .val (.int p2), .val (.int p3), .val (.int r_1), .val (.int r_2), .val (.int r_3), .val (.ref y_4), .val (.ref y_9), .val (.ref y_14), .val (.ref y_39), .val (.ref b44), .val (.int (6 : Int32))] [(.int ((p2 &&& (255 : Int32)).toUInt32.toUInt16.toUInt32.toInt32)), (.int (6 : Int32)), (.ref b44)]) _
        rw [own_i255 (own_m255 p2).1 (own_m255 p2).2]
        show own_Go p e below T183 (mkF m 258 #[.val (.int p0), .val (.int p1), .val (.int p2), .val (.int p3), .val (.int r_1), .val (.int r_2), .val (.int r_3), .val (.ref y_4), .val (.ref y_9), .val (.ref y_14), .val (.ref y_39), .val (.ref b44), .val (.int (6 : Int32))] [(.int (p2 &&& (255 : Int32))), (.int (6 : Int32)), (.ref b44)]) _
        obtain ⟨cl186, Ar186, q186, Sz186, Nn186, Hh186, Gg186⟩ := id V183
        have hin186 : ¬ ((6 : Int32) < 0 ∨ cl186.slots.size ≤ ((6 : Int32)).toNatClampNeg) := inb_of Sz186 ⟨by decide, by decide⟩
        obtain ⟨T187, h187, X187, e187, W187, st187⟩ := stC X183 hx hZ e183 Ar186 (j := (6 : Int32)) hin186 (g := (mkF m 258 #[.val (.int p0), .val (.int p1), .val (.int p2), .val (.int p3), .val (.int r_1), .val (.int r_2), .val (.int r_3), .val (.ref y_4), .val (.ref y_9), .val (.ref y_14), .val (.ref y_39), .val (.ref b44), .val (.int (6 : Int32))] [(.int (p2 &&& (255 : Int32))), (.int (6 : Int32)), (.ref b44)])) rfl rfl (hb hby at_258)
        have V187 : Arv Z h187 b44 k44 .char (11 : Int32) [(.int (p0 &&& (255 : Int32))), (.int (32 : Int32)), (.int (91 : Int32)), (.int (93 : Int32)), (.int (58 : Int32)), (.int (32 : Int32)), (.int (nar .char (p2 &&& (255 : Int32)))), (.int (0 : Int32)), (.int (0 : Int32)), (.int (0 : Int32)), (.int (0 : Int32))] (.int (0 : Int32)) := Arv.set Ar186 q186 Sz186 Nn186 Hh186 Gg186 (fits_nar_char _) W187 6 rfl (Nat.le_of_ble_eq_true rfl)
        rw [own_nar (own_w255 p2)] at V187
        have Sa188 : Safe Z own_EL T39.vm h183 b44 := (Safe.arv hZ.alike V183 (by decide))
        have CH188 := CH184.wr W187 Sa188
        have CR188 := CHr.trans CR184 (CHr.wr W187 Sa188 CH184)
        have K189 : Keep h0 h187 [] := K185.wr W187 (Or.inr B44)
        have N187 := Fr.snoc X187 N183 G44
        refine own_st st187 ?_
        show own_Go p e below T187 (mkF m 259 #[.val (.int p0), .val (.int p1), .val (.int p2), .val (.int p3), .val (.int r_1), .val (.int r_2), .val (.int r_3), .val (.ref y_4), .val (.ref y_9), .val (.ref y_14), .val (.ref y_39), .val (.ref b44), .val (.int (6 : Int32))] []) _
        refine own_st (fun t_ k_ => XS.iload X187.here hx rfl (hb hby at_259) rfl (XS.iconst X187.here hx rfl (hb hby at_261) (XS.iadd X187.here hx rfl (hb hby at_262) rfl (XS.istore X187.here hx rfl (hb hby at_263) rfl (l' := #[.val (.int p0), .val (.int p1), .val (.int p2), .val (.int p3), .val (.int r_1), .val (.int r_2), .val (.int r_3), .val (.ref y_4), .val (.ref y_9), .val (.ref y_14), .val (.ref y_39), .val (.ref b44), .val (.int (7 : Int32))]) rfl (XS.iload X187.here hx rfl (hb hby at_265) rfl (XS.iconst X187.here hx rfl (hb hby at_267) (XS.icmpYes X187.here hx rfl (pc0 := 268) (pc' := 291) rfl (hb hby at_268) rfl (flt (show ¬ ((1 : Int32) < r_3) from (by rw [hA2.1] <;> decide))).2.2.2 (by decide) (by decide) k_))))))) ?_
        show own_Go p e below T187 (mkF m 291 #[.val (.int p0), .val (.int p1), .val (.int p2), .val (.int p3), .val (.int r_1), .val (.int r_2), .val (.int r_3), .val (.ref y_4), .val (.ref y_9), .val (.ref y_14), .val (.ref y_39), .val (.ref b44), .val (.int (7 : Int32))] []) _
        exact tail47 _ _ _ (7 : Int32) [(.int (0 : Int32)), (.int (0 : Int32)), (.int (0 : Int32)), (.int (0 : Int32))] X187 e187 N187 ((((((((Keep.refl h44 [b44]).wr W163 (Or.inl (List.mem_of_getElem? (i := 0) rfl))).wr W167 (Or.inl (List.mem_of_getElem? (i := 0) rfl))).wr W171 (Or.inl (List.mem_of_getElem? (i := 0) rfl))).wr W175 (Or.inl (List.mem_of_getElem? (i := 0) rfl))).wr W179 (Or.inl (List.mem_of_getElem? (i := 0) rfl))).wr W183 (Or.inl (List.mem_of_getElem? (i := 0) rfl))).wr W187 (Or.inl (List.mem_of_getElem? (i := 0) rfl))) (by rw [hA0.2, hA1.2, hA2.2]; exact V187) (by rw [hA0.2, hA1.2, hA2.2]; rfl)
      · skip
        refine own_st (fun t_ k_ => XS.ifNo X183.here hx rfl (hb hby at_245) rfl ((if0 _ _).trans (tlt (show (0 : Int32) < r_3 from (by rw [hA2.1] <;> decide))).2.2.2) (XS.aload X183.here hx rfl (hb hby at_248) rfl rfl (XS.iload X183.here hx rfl (hb hby at_250) rfl (XS.iloadN X183.here hx rfl (hb hby at_252) rfl (XS.sipush X183.here hx rfl (hb hby at_253) (XS.iand X183.here hx rfl (hb hby at_256) rfl (XS.i2c X183.here hx rfl (hb hby at_257) rfl k_))))))) ?_
        show own_Go p e below T183 (mkF m 258 #[.val (.int p0), .val (.int p1), .val (.int p2), .val (.int p3), .val (.int r_1), .val (.int r_2), .val (.int r_3), .val (.ref y_4), .val (.ref y_9), .val (.ref y_14), .val (.ref y_39), .val (.ref b44), .val (.int (6 : Int32))] [(.int ((p2 &&& (255 : Int32)).toUInt32.toUInt16.toUInt32.toInt32)), (.int (6 : Int32)), (.ref b44)]) _
        rw [own_i255 (own_m255 p2).1 (own_m255 p2).2]
        show own_Go p e below T183 (mkF m 258 #[.val (.int p0), .val (.int p1), .val (.int p2), .val (.int p3), .val (.int r_1), .val (.int r_2), .val (.int r_3), .val (.ref y_4), .val (.ref y_9), .val (.ref y_14), .val (.ref y_39), .val (.ref b44), .val (.int (6 : Int32))] [(.int (p2 &&& (255 : Int32))), (.int (6 : Int32)), (.ref b44)]) _
        obtain ⟨cl190, Ar190, q190, Sz190, Nn190, Hh190, Gg190⟩ := id V183
        have hin190 : ¬ ((6 : Int32) < 0 ∨ cl190.slots.size ≤ ((6 : Int32)).toNatClampNeg) := inb_of Sz190 ⟨by decide, by decide⟩
        obtain ⟨T191, h191, X191, e191, W191, st191⟩ := stC X183 hx hZ e183 Ar190 (j := (6 : Int32)) hin190 (g := (mkF m 258 #[.val (.int p0), .val (.int p1), .val (.int p2), .val (.int p3), .val (.int r_1), .val (.int r_2), .val (.int r_3), .val (.ref y_4), .val (.ref y_9), .val (.ref y_14), .val (.ref y_39), .val (.ref b44), .val (.int (6 : Int32))] [(.int (p2 &&& (255 : Int32))), (.int (6 : Int32)), (.ref b44)])) rfl rfl (hb hby at_258)
        have V191 : Arv Z h191 b44 k44 .char (11 : Int32) [(.int (p0 &&& (255 : Int32))), (.int (32 : Int32)), (.int (91 : Int32)), (.int (93 : Int32)), (.int (58 : Int32)), (.int (32 : Int32)), (.int (nar .char (p2 &&& (255 : Int32)))), (.int (0 : Int32)), (.int (0 : Int32)), (.int (0 : Int32)), (.int (0 : Int32))] (.int (0 : Int32)) := Arv.set Ar190 q190 Sz190 Nn190 Hh190 Gg190 (fits_nar_char _) W191 6 rfl (Nat.le_of_ble_eq_true rfl)
        rw [own_nar (own_w255 p2)] at V191
        have Sa192 : Safe Z own_EL T39.vm h183 b44 := (Safe.arv hZ.alike V183 (by decide))
        have CH192 := CH184.wr W191 Sa192
        have CR192 := CHr.trans CR184 (CHr.wr W191 Sa192 CH184)
        have K193 : Keep h0 h191 [] := K185.wr W191 (Or.inr B44)
        have N191 := Fr.snoc X191 N183 G44
        refine own_st st191 ?_
        show own_Go p e below T191 (mkF m 259 #[.val (.int p0), .val (.int p1), .val (.int p2), .val (.int p3), .val (.int r_1), .val (.int r_2), .val (.int r_3), .val (.ref y_4), .val (.ref y_9), .val (.ref y_14), .val (.ref y_39), .val (.ref b44), .val (.int (6 : Int32))] []) _
        refine own_st (fun t_ k_ => XS.iload X191.here hx rfl (hb hby at_259) rfl (XS.iconst X191.here hx rfl (hb hby at_261) (XS.iadd X191.here hx rfl (hb hby at_262) rfl (XS.istore X191.here hx rfl (hb hby at_263) rfl (l' := #[.val (.int p0), .val (.int p1), .val (.int p2), .val (.int p3), .val (.int r_1), .val (.int r_2), .val (.int r_3), .val (.ref y_4), .val (.ref y_9), .val (.ref y_14), .val (.ref y_39), .val (.ref b44), .val (.int (7 : Int32))]) rfl (XS.iload X191.here hx rfl (hb hby at_265) rfl (XS.iconst X191.here hx rfl (hb hby at_267) (XS.icmpNo X191.here hx rfl (hb hby at_268) rfl (tlt (show (1 : Int32) < r_3 from (by rw [hA2.1] <;> decide))).2.2.2 (XS.aload X191.here hx rfl (hb hby at_271) rfl rfl (XS.iload X191.here hx rfl (hb hby at_273) rfl (XS.iloadN X191.here hx rfl (hb hby at_275) rfl k_)))))))))) ?_
        show own_Go p e below T191 (mkF m 276 #[.val (.int p0), .val (.int p1), .val (.int p2), .val (.int p3), .val (.int r_1), .val (.int r_2), .val (.int r_3), .val (.ref y_4), .val (.ref y_9), .val (.ref y_14), .val (.ref y_39), .val (.ref b44), .val (.int (7 : Int32))] [(.int p2), (.int (7 : Int32)), (.ref b44)]) _
        refine own_st (fun t_ k_ => XS.bipush X191.here hx rfl (hb hby at_276) (XS.iushr X191.here hx rfl (hb hby at_278) rfl (XS.sipush X191.here hx rfl (hb hby at_279) (XS.iand X191.here hx rfl (hb hby at_282) rfl (XS.i2c X191.here hx rfl (hb hby at_283) rfl k_))))) ?_
        show own_Go p e below T191 (mkF m 284 #[.val (.int p0), .val (.int p1), .val (.int p2), .val (.int p3), .val (.int r_1), .val (.int r_2), .val (.int r_3), .val (.ref y_4), .val (.ref y_9), .val (.ref y_14), .val (.ref y_39), .val (.ref b44), .val (.int (7 : Int32))] [(.int ((((p2.toUInt32 >>> ((8 : Int32) &&& 31).toUInt32).toInt32) &&& (255 : Int32)).toUInt32.toUInt16.toUInt32.toInt32)), (.int (7 : Int32)), (.ref b44)]) _
        rw [own_iu8 p2, own_i255 (own_m255 (own_hi p2)).1 (own_m255 (own_hi p2)).2]
        show own_Go p e below T191 (mkF m 284 #[.val (.int p0), .val (.int p1), .val (.int p2), .val (.int p3), .val (.int r_1), .val (.int r_2), .val (.int r_3), .val (.ref y_4), .val (.ref y_9), .val (.ref y_14), .val (.ref y_39), .val (.ref b44), .val (.int (7 : Int32))] [(.int (own_hi p2 &&& (255 : Int32))), (.int (7 : Int32)), (.ref b44)]) _
        obtain ⟨cl194, Ar194, q194, Sz194, Nn194, Hh194, Gg194⟩ := id V191
        have hin194 : ¬ ((7 : Int32) < 0 ∨ cl194.slots.size ≤ ((7 : Int32)).toNatClampNeg) := inb_of Sz194 ⟨by decide, by decide⟩
        obtain ⟨T195, h195, X195, e195, W195, st195⟩ := stC X191 hx hZ e191 Ar194 (j := (7 : Int32)) hin194 (g := (mkF m 284 #[.val (.int p0), .val (.int p1), .val (.int p2), .val (.int p3), .val (.int r_1), .val (.int r_2), .val (.int r_3), .val (.ref y_4), .val (.ref y_9), .val (.ref y_14), .val (.ref y_39), .val (.ref b44), .val (.int (7 : Int32))] [(.int (own_hi p2 &&& (255 : Int32))), (.int (7 : Int32)), (.ref b44)])) rfl rfl (hb hby at_284)
        have V195 : Arv Z h195 b44 k44 .char (11 : Int32) [(.int (p0 &&& (255 : Int32))), (.int (32 : Int32)), (.int (91 : Int32)), (.int (93 : Int32)), (.int (58 : Int32)), (.int (32 : Int32)), (.int (p2 &&& (255 : Int32))), (.int (nar .char (own_hi p2 &&& (255 : Int32)))), (.int (0 : Int32)), (.int (0 : Int32)), (.int (0 : Int32))] (.int (0 : Int32)) := Arv.set Ar194 q194 Sz194 Nn194 Hh194 Gg194 (fits_nar_char _) W195 7 rfl (Nat.le_of_ble_eq_true rfl)
        rw [own_nar (own_w255 (own_hi p2))] at V195
        have Sa196 : Safe Z own_EL T39.vm h191 b44 := (Safe.arv hZ.alike V191 (by decide))
        have CH196 := CH192.wr W195 Sa196
        have CR196 := CHr.trans CR192 (CHr.wr W195 Sa196 CH192)
        have K197 : Keep h0 h195 [] := K193.wr W195 (Or.inr B44)
        have N195 := Fr.snoc X195 N191 G44
        refine own_st st195 ?_
        show own_Go p e below T195 (mkF m 285 #[.val (.int p0), .val (.int p1), .val (.int p2), .val (.int p3), .val (.int r_1), .val (.int r_2), .val (.int r_3), .val (.ref y_4), .val (.ref y_9), .val (.ref y_14), .val (.ref y_39), .val (.ref b44), .val (.int (7 : Int32))] []) _
        refine own_st (fun t_ k_ => XS.iload X195.here hx rfl (hb hby at_285) rfl (XS.iconst X195.here hx rfl (hb hby at_287) (XS.iadd X195.here hx rfl (hb hby at_288) rfl (XS.istore X195.here hx rfl (hb hby at_289) rfl (l' := #[.val (.int p0), .val (.int p1), .val (.int p2), .val (.int p3), .val (.int r_1), .val (.int r_2), .val (.int r_3), .val (.ref y_4), .val (.ref y_9), .val (.ref y_14), .val (.ref y_39), .val (.ref b44), .val (.int (8 : Int32))]) rfl k_)))) ?_
        show own_Go p e below T195 (mkF m 291 #[.val (.int p0), .val (.int p1), .val (.int p2), .val (.int p3), .val (.int r_1), .val (.int r_2), .val (.int r_3), .val (.ref y_4), .val (.ref y_9), .val (.ref y_14), .val (.ref y_39), .val (.ref b44), .val (.int (8 : Int32))] []) _
        exact tail47 _ _ _ (8 : Int32) [(.int (0 : Int32)), (.int (0 : Int32)), (.int (0 : Int32))] X195 e195 N195 (((((((((Keep.refl h44 [b44]).wr W163 (Or.inl (List.mem_of_getElem? (i := 0) rfl))).wr W167 (Or.inl (List.mem_of_getElem? (i := 0) rfl))).wr W171 (Or.inl (List.mem_of_getElem? (i := 0) rfl))).wr W175 (Or.inl (List.mem_of_getElem? (i := 0) rfl))).wr W179 (Or.inl (List.mem_of_getElem? (i := 0) rfl))).wr W183 (Or.inl (List.mem_of_getElem? (i := 0) rfl))).wr W191 (Or.inl (List.mem_of_getElem? (i := 0) rfl))).wr W195 (Or.inl (List.mem_of_getElem? (i := 0) rfl))) (by rw [hA0.2, hA1.2, hA2.2]; exact V195) (by rw [hA0.2, hA1.2, hA2.2]; rfl)
    · skip
      refine own_st (fun t_ k_ => XS.ifNo X171.here hx rfl (hb hby at_158) rfl ((if0 _ _).trans (tlt (show (0 : Int32) < r_2 from (by rw [hA1.1] <;> decide))).2.2.2) (XS.aload X171.here hx rfl (hb hby at_161) rfl rfl (XS.iload X171.here hx rfl (hb hby at_163) rfl (XS.iloadN X171.here hx rfl (hb hby at_165) rfl (XS.sipush X171.here hx rfl (hb hby at_166) (XS.iand X171.here hx rfl (hb hby at_169) rfl (XS.i2c X171.here hx rfl (hb hby at_170) rfl k_))))))) ?_
      show own_Go p e below T171 (mkF m 171 #[.val (.int p0), .val (.int p1), .val (.int p2), .val (.int p3), .val (.int r_1), .val (.int r_2), .val (.int r_3), .val (.ref y_4), .val (.ref y_9), .val (.ref y_14), .val (.ref y_39), .val (.ref b44), .val (.int (3 : Int32))] [(.int ((p1 &&& (255 : Int32)).toUInt32.toUInt16.toUInt32.toInt32)), (.int (3 : Int32)), (.ref b44)]) _
      rw [own_i255 (own_m255 p1).1 (own_m255 p1).2]
      show own_Go p e below T171 (mkF m 171 #[.val (.int p0), .val (.int p1), .val (.int p2), .val (.int p3), .val (.int r_1), .val (.int r_2), .val (.int r_3), .val (.ref y_4), .val (.ref y_9), .val (.ref y_14), .val (.ref y_39), .val (.ref b44), .val (.int (3 : Int32))] [(.int (p1 &&& (255 : Int32))), (.int (3 : Int32)), (.ref b44)]) _
      obtain ⟨cl198, Ar198, q198, Sz198, Nn198, Hh198, Gg198⟩ := id V171
      have hin198 : ¬ ((3 : Int32) < 0 ∨ cl198.slots.size ≤ ((3 : Int32)).toNatClampNeg) := inb_of Sz198 ⟨by decide, by decide⟩
      obtain ⟨T199, h199, X199, e199, W199, st199⟩ := stC X171 hx hZ e171 Ar198 (j := (3 : Int32)) hin198 (g := (mkF m 171 #[.val (.int p0), .val (.int p1), .val (.int p2), .val (.int p3), .val (.int r_1), .val (.int r_2), .val (.int r_3), .val (.ref y_4), .val (.ref y_9), .val (.ref y_14), .val (.ref y_39), .val (.ref b44), .val (.int (3 : Int32))] [(.int (p1 &&& (255 : Int32))), (.int (3 : Int32)), (.ref b44)])) rfl rfl (hb hby at_171)
      have V199 : Arv Z h199 b44 k44 .char (11 : Int32) [(.int (p0 &&& (255 : Int32))), (.int (32 : Int32)), (.int (91 : Int32)), (.int (nar .char (p1 &&& (255 : Int32)))), (.int (0 : Int32)), (.int (0 : Int32)), (.int (0 : Int32)), (.int (0 : Int32)), (.int (0 : Int32)), (.int (0 : Int32)), (.int (0 : Int32))] (.int (0 : Int32)) := Arv.set Ar198 q198 Sz198 Nn198 Hh198 Gg198 (fits_nar_char _) W199 3 rfl (Nat.le_of_ble_eq_true rfl)
      rw [own_nar (own_w255 p1)] at V199
      have Sa200 : Safe Z own_EL T39.vm h171 b44 := (Safe.arv hZ.alike V171 (by decide))
      have CH200 := CH172.wr W199 Sa200
      have CR200 := CHr.trans CR172 (CHr.wr W199 Sa200 CH172)
      have K201 : Keep h0 h199 [] := K173.wr W199 (Or.inr B44)
      have N199 := Fr.snoc X199 N171 G44
      refine own_st st199 ?_
      show own_Go p e below T199 (mkF m 172 #[.val (.int p0), .val (.int p1), .val (.int p2), .val (.int p3), .val (.int r_1), .val (.int r_2), .val (.int r_3), .val (.ref y_4), .val (.ref y_9), .val (.ref y_14), .val (.ref y_39), .val (.ref b44), .val (.int (3 : Int32))] []) _
      refine own_st (fun t_ k_ => XS.iload X199.here hx rfl (hb hby at_172) rfl (XS.iconst X199.here hx rfl (hb hby at_174) (XS.iadd X199.here hx rfl (hb hby at_175) rfl (XS.istore X199.here hx rfl (hb hby at_176) rfl (l' := #[.val (.int p0), .val (.int p1), .val (.int p2), .val (.int p3), .val (.int r_1), .val (.int r_2), .val (.int r_3), .val (.ref y_4), .val (.ref y_9), .val (.ref y_14), .val (.ref y_39), .val (.ref b44), .val (.int (4 : Int32))]) rfl (XS.iload X199.here hx rfl (hb hby at_178) rfl (XS.iconst X199.here hx rfl (hb hby at_180) (XS.icmpYes X199.here hx rfl (pc0 := 181) (pc' := 204) rfl (hb hby at_181) rfl (flt (show ¬ ((1 : Int32) < r_2) from (by rw [hA1.1] <;> decide))).2.2.2 (by decide) (by decide) (XS.aload X199.here hx rfl (hb hby at_204) rfl rfl (XS.iload X199.here hx rfl (hb hby at_206) rfl (XS.bipush X199.here hx rfl (hb hby at_208) k_)))))))))) ?_
      show own_Go p e below T199 (mkF m 210 #[.val (.int p0), .val (.int p1), .val (.int p2), .val (.int p3), .val (.int r_1), .val (.int r_2), .val (.int r_3), .val (.ref y_4), .val (.ref y_9), .val (.ref y_14), .val (.ref y_39), .val (.ref b44), .val (.int (4 : Int32))] [(.int (93 : Int32)), (.int (4 : Int32)), (.ref b44)]) _
      obtain ⟨cl202, Ar202, q202, Sz202, Nn202, Hh202, Gg202⟩ := id V199
      have hin202 : ¬ ((4 : Int32) < 0 ∨ cl202.slots.size ≤ ((4 : Int32)).toNatClampNeg) := inb_of Sz202 ⟨by decide, by decide⟩
      obtain ⟨T203, h203, X203, e203, W203, st203⟩ := stC X199 hx hZ e199 Ar202 (j := (4 : Int32)) hin202 (g := (mkF m 210 #[.val (.int p0), .val (.int p1), .val (.int p2), .val (.int p3), .val (.int r_1), .val (.int r_2), .val (.int r_3), .val (.ref y_4), .val (.ref y_9), .val (.ref y_14), .val (.ref y_39), .val (.ref b44), .val (.int (4 : Int32))] [(.int (93 : Int32)), (.int (4 : Int32)), (.ref b44)])) rfl rfl (hb hby at_210)
      have V203 : Arv Z h203 b44 k44 .char (11 : Int32) [(.int (p0 &&& (255 : Int32))), (.int (32 : Int32)), (.int (91 : Int32)), (.int (p1 &&& (255 : Int32))), (.int (nar .char (93 : Int32))), (.int (0 : Int32)), (.int (0 : Int32)), (.int (0 : Int32)), (.int (0 : Int32)), (.int (0 : Int32)), (.int (0 : Int32))] (.int (0 : Int32)) := Arv.set Ar202 q202 Sz202 Nn202 Hh202 Gg202 (fits_nar_char _) W203 4 rfl (Nat.le_of_ble_eq_true rfl)
      rw [(show nar .char (93 : Int32) = (93 : Int32) from rfl)] at V203
      have Sa204 : Safe Z own_EL T39.vm h199 b44 := (Safe.arv hZ.alike V199 (by decide))
      have CH204 := CH200.wr W203 Sa204
      have CR204 := CHr.trans CR200 (CHr.wr W203 Sa204 CH200)
      have K205 : Keep h0 h203 [] := K201.wr W203 (Or.inr B44)
      have N203 := Fr.snoc X203 N199 G44
      refine own_st st203 ?_
      show own_Go p e below T203 (mkF m 211 #[.val (.int p0), .val (.int p1), .val (.int p2), .val (.int p3), .val (.int r_1), .val (.int r_2), .val (.int r_3), .val (.ref y_4), .val (.ref y_9), .val (.ref y_14), .val (.ref y_39), .val (.ref b44), .val (.int (4 : Int32))] []) _
      refine own_st (fun t_ k_ => XS.iload X203.here hx rfl (hb hby at_211) rfl (XS.iconst X203.here hx rfl (hb hby at_213) (XS.iadd X203.here hx rfl (hb hby at_214) rfl (XS.istore X203.here hx rfl (hb hby at_215) rfl (l' := #[.val (.int p0), .val (.int p1), .val (.int p2), .val (.int p3), .val (.int r_1), .val (.int r_2), .val (.int r_3), .val (.ref y_4), .val (.ref y_9), .val (.ref y_14), .val (.ref y_39), .val (.ref b44), .val (.int (5 : Int32))]) rfl (XS.aload X203.here hx rfl (hb hby at_217) rfl rfl (XS.iload X203.here hx rfl (hb hby at_219) rfl (XS.bipush X203.here hx rfl (hb hby at_221) k_))))))) ?_
      show own_Go p e below T203 (mkF m 223 #[.val (.int p0), .val (.int p1), .val (.int p2), .val (.int p3), .val (.int r_1), .val (.int r_2), .val (.int r_3), .val (.ref y_4), .val (.ref y_9), .val (.ref y_14), .val (.ref y_39), .val (.ref b44), .val (.int (5 : Int32))] [(.int (58 : Int32)), (.int (5 : Int32)), (.ref b44)]) _
      obtain ⟨cl206, Ar206, q206, Sz206, Nn206, Hh206, Gg206⟩ := id V203
      have hin206 : ¬ ((5 : Int32) < 0 ∨ cl206.slots.size ≤ ((5 : Int32)).toNatClampNeg) := inb_of Sz206 ⟨by decide, by decide⟩
      obtain ⟨T207, h207, X207, e207, W207, st207⟩ := stC X203 hx hZ e203 Ar206 (j := (5 : Int32)) hin206 (g := (mkF m 223 #[.val (.int p0), .val (.int p1), .val (.int p2), .val (.int p3), .val (.int r_1), .val (.int r_2), .val (.int r_3), .val (.ref y_4), .val (.ref y_9), .val (.ref y_14), .val (.ref y_39), .val (.ref b44), .val (.int (5 : Int32))] [(.int (58 : Int32)), (.int (5 : Int32)), (.ref b44)])) rfl rfl (hb hby at_223)
      have V207 : Arv Z h207 b44 k44 .char (11 : Int32) [(.int (p0 &&& (255 : Int32))), (.int (32 : Int32)), (.int (91 : Int32)), (.int (p1 &&& (255 : Int32))), (.int (93 : Int32)), (.int (nar .char (58 : Int32))), (.int (0 : Int32)), (.int (0 : Int32)), (.int (0 : Int32)), (.int (0 : Int32)), (.int (0 : Int32))] (.int (0 : Int32)) := Arv.set Ar206 q206 Sz206 Nn206 Hh206 Gg206 (fits_nar_char _) W207 5 rfl (Nat.le_of_ble_eq_true rfl)
      rw [(show nar .char (58 : Int32) = (58 : Int32) from rfl)] at V207
      have Sa208 : Safe Z own_EL T39.vm h203 b44 := (Safe.arv hZ.alike V203 (by decide))
      have CH208 := CH204.wr W207 Sa208
      have CR208 := CHr.trans CR204 (CHr.wr W207 Sa208 CH204)
      have K209 : Keep h0 h207 [] := K205.wr W207 (Or.inr B44)
      have N207 := Fr.snoc X207 N203 G44
      refine own_st st207 ?_
      show own_Go p e below T207 (mkF m 224 #[.val (.int p0), .val (.int p1), .val (.int p2), .val (.int p3), .val (.int r_1), .val (.int r_2), .val (.int r_3), .val (.ref y_4), .val (.ref y_9), .val (.ref y_14), .val (.ref y_39), .val (.ref b44), .val (.int (5 : Int32))] []) _
      refine own_st (fun t_ k_ => XS.iload X207.here hx rfl (hb hby at_224) rfl (XS.iconst X207.here hx rfl (hb hby at_226) (XS.iadd X207.here hx rfl (hb hby at_227) rfl (XS.istore X207.here hx rfl (hb hby at_228) rfl (l' := #[.val (.int p0), .val (.int p1), .val (.int p2), .val (.int p3), .val (.int r_1), .val (.int r_2), .val (.int r_3), .val (.ref y_4), .val (.ref y_9), .val (.ref y_14), .val (.ref y_39), .val (.ref b44), .val (.int (6 : Int32))]) rfl (XS.aload X207.here hx rfl (hb hby at_230) rfl rfl (XS.iload X207.here hx rfl (hb hby at_232) rfl (XS.bipush X207.here hx rfl (hb hby at_234) k_))))))) ?_
      show own_Go p e below T207 (mkF m 236 #[.val (.int p0), .val (.int p1), .val (.int p2), .val (.int p3), .val (.int r_1), .val (.int r_2), .val (.int r_3), .val (.ref y_4), .val (.ref y_9), .val (.ref y_14), .val (.ref y_39), .val (.ref b44), .val (.int (6 : Int32))] [(.int (32 : Int32)), (.int (6 : Int32)), (.ref b44)]) _
      obtain ⟨cl210, Ar210, q210, Sz210, Nn210, Hh210, Gg210⟩ := id V207
      have hin210 : ¬ ((6 : Int32) < 0 ∨ cl210.slots.size ≤ ((6 : Int32)).toNatClampNeg) := inb_of Sz210 ⟨by decide, by decide⟩
      obtain ⟨T211, h211, X211, e211, W211, st211⟩ := stC X207 hx hZ e207 Ar210 (j := (6 : Int32)) hin210 (g := (mkF m 236 #[.val (.int p0), .val (.int p1), .val (.int p2), .val (.int p3), .val (.int r_1), .val (.int r_2), .val (.int r_3), .val (.ref y_4), .val (.ref y_9), .val (.ref y_14), .val (.ref y_39), .val (.ref b44), .val (.int (6 : Int32))] [(.int (32 : Int32)), (.int (6 : Int32)), (.ref b44)])) rfl rfl (hb hby at_236)
      have V211 : Arv Z h211 b44 k44 .char (11 : Int32) [(.int (p0 &&& (255 : Int32))), (.int (32 : Int32)), (.int (91 : Int32)), (.int (p1 &&& (255 : Int32))), (.int (93 : Int32)), (.int (58 : Int32)), (.int (nar .char (32 : Int32))), (.int (0 : Int32)), (.int (0 : Int32)), (.int (0 : Int32)), (.int (0 : Int32))] (.int (0 : Int32)) := Arv.set Ar210 q210 Sz210 Nn210 Hh210 Gg210 (fits_nar_char _) W211 6 rfl (Nat.le_of_ble_eq_true rfl)
      rw [(show nar .char (32 : Int32) = (32 : Int32) from rfl)] at V211
      have Sa212 : Safe Z own_EL T39.vm h207 b44 := (Safe.arv hZ.alike V207 (by decide))
      have CH212 := CH208.wr W211 Sa212
      have CR212 := CHr.trans CR208 (CHr.wr W211 Sa212 CH208)
      have K213 : Keep h0 h211 [] := K209.wr W211 (Or.inr B44)
      have N211 := Fr.snoc X211 N207 G44
      refine own_st st211 ?_
      show own_Go p e below T211 (mkF m 237 #[.val (.int p0), .val (.int p1), .val (.int p2), .val (.int p3), .val (.int r_1), .val (.int r_2), .val (.int r_3), .val (.ref y_4), .val (.ref y_9), .val (.ref y_14), .val (.ref y_39), .val (.ref b44), .val (.int (6 : Int32))] []) _
      refine own_st (fun t_ k_ => XS.iload X211.here hx rfl (hb hby at_237) rfl (XS.iconst X211.here hx rfl (hb hby at_239) (XS.iadd X211.here hx rfl (hb hby at_240) rfl (XS.istore X211.here hx rfl (hb hby at_241) rfl (l' := #[.val (.int p0), .val (.int p1), .val (.int p2), .val (.int p3), .val (.int r_1), .val (.int r_2), .val (.int r_3), .val (.ref y_4), .val (.ref y_9), .val (.ref y_14), .val (.ref y_39), .val (.ref b44), .val (.int (7 : Int32))]) rfl (XS.iload X211.here hx rfl (hb hby at_243) rfl k_))))) ?_
      show own_Go p e below T211 (mkF m 245 #[.val (.int p0), .val (.int p1), .val (.int p2), .val (.int p3), .val (.int r_1), .val (.int r_2), .val (.int r_3), .val (.ref y_4), .val (.ref y_9), .val (.ref y_14), .val (.ref y_39), .val (.ref b44), .val (.int (7 : Int32))] [(.int r_3)]) _
      rcases hM2 with hA2 | hA2 | hA2
      · skip
        refine own_st (fun t_ k_ => XS.ifYes X211.here hx rfl (pc0 := 245) (pc' := 265) rfl (hb hby at_245) rfl ((if0 _ _).trans (flt (show ¬ ((0 : Int32) < r_3) from (by rw [hA2.1] <;> decide))).2.2.2) (by decide) (by decide) (XS.iload X211.here hx rfl (hb hby at_265) rfl (XS.iconst X211.here hx rfl (hb hby at_267) (XS.icmpYes X211.here hx rfl (pc0 := 268) (pc' := 291) rfl (hb hby at_268) rfl (flt (show ¬ ((1 : Int32) < r_3) from (by rw [hA2.1] <;> decide))).2.2.2 (by decide) (by decide) k_)))) ?_
        show own_Go p e below T211 (mkF m 291 #[.val (.int p0), .val (.int p1), .val (.int p2), .val (.int p3), .val (.int r_1), .val (.int r_2), .val (.int r_3), .val (.ref y_4), .val (.ref y_9), .val (.ref y_14), .val (.ref y_39), .val (.ref b44), .val (.int (7 : Int32))] []) _
        exact tail47 _ _ _ (7 : Int32) [(.int (0 : Int32)), (.int (0 : Int32)), (.int (0 : Int32)), (.int (0 : Int32))] X211 e211 N211 ((((((((Keep.refl h44 [b44]).wr W163 (Or.inl (List.mem_of_getElem? (i := 0) rfl))).wr W167 (Or.inl (List.mem_of_getElem? (i := 0) rfl))).wr W171 (Or.inl (List.mem_of_getElem? (i := 0) rfl))).wr W199 (Or.inl (List.mem_of_getElem? (i := 0) rfl))).wr W203 (Or.inl (List.mem_of_getElem? (i := 0) rfl))).wr W207 (Or.inl (List.mem_of_getElem? (i := 0) rfl))).wr W211 (Or.inl (List.mem_of_getElem? (i := 0) rfl))) (by rw [hA0.2, hA1.2, hA2.2]; exact V211) (by rw [hA0.2, hA1.2, hA2.2]; rfl)
      · skip
        refine own_st (fun t_ k_ => XS.ifNo X211.here hx rfl (hb hby at_245) rfl ((if0 _ _).trans (tlt (show (0 : Int32) < r_3 from (by rw [hA2.1] <;> decide))).2.2.2) (XS.aload X211.here hx rfl (hb hby at_248) rfl rfl (XS.iload X211.here hx rfl (hb hby at_250) rfl (XS.iloadN X211.here hx rfl (hb hby at_252) rfl (XS.sipush X211.here hx rfl (hb hby at_253) (XS.iand X211.here hx rfl (hb hby at_256) rfl (XS.i2c X211.here hx rfl (hb hby at_257) rfl k_))))))) ?_
        show own_Go p e below T211 (mkF m 258 #[.val (.int p0), .val (.int p1), .val (.int p2), .val (.int p3), .val (.int r_1), .val (.int r_2), .val (.int r_3), .val (.ref y_4), .val (.ref y_9), .val (.ref y_14), .val (.ref y_39), .val (.ref b44), .val (.int (7 : Int32))] [(.int ((p2 &&& (255 : Int32)).toUInt32.toUInt16.toUInt32.toInt32)), (.int (7 : Int32)), (.ref b44)]) _
        rw [own_i255 (own_m255 p2).1 (own_m255 p2).2]
        show own_Go p e below T211 (mkF m 258 #[.val (.int p0), .val (.int p1), .val (.int p2), .val (.int p3), .val (.int r_1), .val (.int r_2), .val (.int r_3), .val (.ref y_4), .val (.ref y_9), .val (.ref y_14), .val (.ref y_39), .val (.ref b44), .val (.int (7 : Int32))] [(.int (p2 &&& (255 : Int32))), (.int (7 : Int32)), (.ref b44)]) _
        obtain ⟨cl214, Ar214, q214, Sz214, Nn214, Hh214, Gg214⟩ := id V211
        have hin214 : ¬ ((7 : Int32) < 0 ∨ cl214.slots.size ≤ ((7 : Int32)).toNatClampNeg) := inb_of Sz214 ⟨by decide, by decide⟩
        obtain ⟨T215, h215, X215, e215, W215, st215⟩ := stC X211 hx hZ e211 Ar214 (j := (7 : Int32)) hin214 (g := (mkF m 258 #[.val (.int p0), .val (.int p1), .val (.int p2), .val (.int p3), .val (.int r_1), .val (.int r_2), .val (.int r_3), .val (.ref y_4), .val (.ref y_9), .val (.ref y_14), .val (.ref y_39), .val (.ref b44), .val (.int (7 : Int32))] [(.int (p2 &&& (255 : Int32))), (.int (7 : Int32)), (.ref b44)])) rfl rfl (hb hby at_258)
        have V215 : Arv Z h215 b44 k44 .char (11 : Int32) [(.int (p0 &&& (255 : Int32))), (.int (32 : Int32)), (.int (91 : Int32)), (.int (p1 &&& (255 : Int32))), (.int (93 : Int32)), (.int (58 : Int32)), (.int (32 : Int32)), (.int (nar .char (p2 &&& (255 : Int32)))), (.int (0 : Int32)), (.int (0 : Int32)), (.int (0 : Int32))] (.int (0 : Int32)) := Arv.set Ar214 q214 Sz214 Nn214 Hh214 Gg214 (fits_nar_char _) W215 7 rfl (Nat.le_of_ble_eq_true rfl)
        rw [own_nar (own_w255 p2)] at V215
        have Sa216 : Safe Z own_EL T39.vm h211 b44 := (Safe.arv hZ.alike V211 (by decide))
        have CH216 := CH212.wr W215 Sa216
        have CR216 := CHr.trans CR212 (CHr.wr W215 Sa216 CH212)
        have K217 : Keep h0 h215 [] := K213.wr W215 (Or.inr B44)
        have N215 := Fr.snoc X215 N211 G44
        refine own_st st215 ?_
        show own_Go p e below T215 (mkF m 259 #[.val (.int p0), .val (.int p1), .val (.int p2), .val (.int p3), .val (.int r_1), .val (.int r_2), .val (.int r_3), .val (.ref y_4), .val (.ref y_9), .val (.ref y_14), .val (.ref y_39), .val (.ref b44), .val (.int (7 : Int32))] []) _
        refine own_st (fun t_ k_ => XS.iload X215.here hx rfl (hb hby at_259) rfl (XS.iconst X215.here hx rfl (hb hby at_261) (XS.iadd X215.here hx rfl (hb hby at_262) rfl (XS.istore X215.here hx rfl (hb hby at_263) rfl (l' := #[.val (.int p0), .val (.int p1), .val (.int p2), .val (.int p3), .val (.int r_1), .val (.int r_2), .val (.int r_3), .val (.ref y_4), .val (.ref y_9), .val (.ref y_14), .val (.ref y_39), .val (.ref b44), .val (.int (8 : Int32))]) rfl (XS.iload X215.here hx rfl (hb hby at_265) rfl (XS.iconst X215.here hx rfl (hb hby at_267) (XS.icmpYes X215.here hx rfl (pc0 := 268) (pc' := 291) rfl (hb hby at_268) rfl (flt (show ¬ ((1 : Int32) < r_3) from (by rw [hA2.1] <;> decide))).2.2.2 (by decide) (by decide) k_))))))) ?_
        show own_Go p e below T215 (mkF m 291 #[.val (.int p0), .val (.int p1), .val (.int p2), .val (.int p3), .val (.int r_1), .val (.int r_2), .val (.int r_3), .val (.ref y_4), .val (.ref y_9), .val (.ref y_14), .val (.ref y_39), .val (.ref b44), .val (.int (8 : Int32))] []) _
        exact tail47 _ _ _ (8 : Int32) [(.int (0 : Int32)), (.int (0 : Int32)), (.int (0 : Int32))] X215 e215 N215 (((((((((Keep.refl h44 [b44]).wr W163 (Or.inl (List.mem_of_getElem? (i := 0) rfl))).wr W167 (Or.inl (List.mem_of_getElem? (i := 0) rfl))).wr W171 (Or.inl (List.mem_of_getElem? (i := 0) rfl))).wr W199 (Or.inl (List.mem_of_getElem? (i := 0) rfl))).wr W203 (Or.inl (List.mem_of_getElem? (i := 0) rfl))).wr W207 (Or.inl (List.mem_of_getElem? (i := 0) rfl))).wr W211 (Or.inl (List.mem_of_getElem? (i := 0) rfl))).wr W215 (Or.inl (List.mem_of_getElem? (i := 0) rfl))) (by rw [hA0.2, hA1.2, hA2.2]; exact V215) (by rw [hA0.2, hA1.2, hA2.2]; rfl)
      · skip
        refine own_st (fun t_ k_ => XS.ifNo X211.here hx rfl (hb hby at_245) rfl ((if0 _ _).trans (tlt (show (0 : Int32) < r_3 from (by rw [hA2.1] <;> decide))).2.2.2) (XS.aload X211.here hx rfl (hb hby at_248) rfl rfl (XS.iload X211.here hx rfl (hb hby at_250) rfl (XS.iloadN X211.here hx rfl (hb hby at_252) rfl (XS.sipush X211.here hx rfl (hb hby at_253) (XS.iand X211.here hx rfl (hb hby at_256) rfl (XS.i2c X211.here hx rfl (hb hby at_257) rfl k_))))))) ?_
        show own_Go p e below T211 (mkF m 258 #[.val (.int p0), .val (.int p1), .val (.int p2), .val (.int p3), .val (.int r_1), .val (.int r_2), .val (.int r_3), .val (.ref y_4), .val (.ref y_9), .val (.ref y_14), .val (.ref y_39), .val (.ref b44), .val (.int (7 : Int32))] [(.int ((p2 &&& (255 : Int32)).toUInt32.toUInt16.toUInt32.toInt32)), (.int (7 : Int32)), (.ref b44)]) _
        rw [own_i255 (own_m255 p2).1 (own_m255 p2).2]
        show own_Go p e below T211 (mkF m 258 #[.val (.int p0), .val (.int p1), .val (.int p2), .val (.int p3), .val (.int r_1), .val (.int r_2), .val (.int r_3), .val (.ref y_4), .val (.ref y_9), .val (.ref y_14), .val (.ref y_39), .val (.ref b44), .val (.int (7 : Int32))] [(.int (p2 &&& (255 : Int32))), (.int (7 : Int32)), (.ref b44)]) _
        obtain ⟨cl218, Ar218, q218, Sz218, Nn218, Hh218, Gg218⟩ := id V211
        have hin218 : ¬ ((7 : Int32) < 0 ∨ cl218.slots.size ≤ ((7 : Int32)).toNatClampNeg) := inb_of Sz218 ⟨by decide, by decide⟩
        obtain ⟨T219, h219, X219, e219, W219, st219⟩ := stC X211 hx hZ e211 Ar218 (j := (7 : Int32)) hin218 (g := (mkF m 258 #[.val (.int p0), .val (.int p1), .val (.int p2), .val (.int p3), .val (.int r_1), .val (.int r_2), .val (.int r_3), .val (.ref y_4), .val (.ref y_9), .val (.ref y_14), .val (.ref y_39), .val (.ref b44), .val (.int (7 : Int32))] [(.int (p2 &&& (255 : Int32))), (.int (7 : Int32)), (.ref b44)])) rfl rfl (hb hby at_258)
        have V219 : Arv Z h219 b44 k44 .char (11 : Int32) [(.int (p0 &&& (255 : Int32))), (.int (32 : Int32)), (.int (91 : Int32)), (.int (p1 &&& (255 : Int32))), (.int (93 : Int32)), (.int (58 : Int32)), (.int (32 : Int32)), (.int (nar .char (p2 &&& (255 : Int32)))), (.int (0 : Int32)), (.int (0 : Int32)), (.int (0 : Int32))] (.int (0 : Int32)) := Arv.set Ar218 q218 Sz218 Nn218 Hh218 Gg218 (fits_nar_char _) W219 7 rfl (Nat.le_of_ble_eq_true rfl)
        rw [own_nar (own_w255 p2)] at V219
        have Sa220 : Safe Z own_EL T39.vm h211 b44 := (Safe.arv hZ.alike V211 (by decide))
        have CH220 := CH212.wr W219 Sa220
        have CR220 := CHr.trans CR212 (CHr.wr W219 Sa220 CH212)
        have K221 : Keep h0 h219 [] := K213.wr W219 (Or.inr B44)
        have N219 := Fr.snoc X219 N211 G44
        refine own_st st219 ?_
        show own_Go p e below T219 (mkF m 259 #[.val (.int p0), .val (.int p1), .val (.int p2), .val (.int p3), .val (.int r_1), .val (.int r_2), .val (.int r_3), .val (.ref y_4), .val (.ref y_9), .val (.ref y_14), .val (.ref y_39), .val (.ref b44), .val (.int (7 : Int32))] []) _
        refine own_st (fun t_ k_ => XS.iload X219.here hx rfl (hb hby at_259) rfl (XS.iconst X219.here hx rfl (hb hby at_261) (XS.iadd X219.here hx rfl (hb hby at_262) rfl (XS.istore X219.here hx rfl (hb hby at_263) rfl (l' := #[.val (.int p0), .val (.int p1), .val (.int p2), .val (.int p3), .val (.int r_1), .val (.int r_2), .val (.int r_3), .val (.ref y_4), .val (.ref y_9), .val (.ref y_14), .val (.ref y_39), .val (.ref b44), .val (.int (8 : Int32))]) rfl (XS.iload X219.here hx rfl (hb hby at_265) rfl (XS.iconst X219.here hx rfl (hb hby at_267) (XS.icmpNo X219.here hx rfl (hb hby at_268) rfl (tlt (show (1 : Int32) < r_3 from (by rw [hA2.1] <;> decide))).2.2.2 (XS.aload X219.here hx rfl (hb hby at_271) rfl rfl (XS.iload X219.here hx rfl (hb hby at_273) rfl (XS.iloadN X219.here hx rfl (hb hby at_275) rfl k_)))))))))) ?_
        show own_Go p e below T219 (mkF m 276 #[.val (.int p0), .val (.int p1), .val (.int p2), .val (.int p3), .val (.int r_1), .val (.int r_2), .val (.int r_3), .val (.ref y_4), .val (.ref y_9), .val (.ref y_14), .val (.ref y_39), .val (.ref b44), .val (.int (8 : Int32))] [(.int p2), (.int (8 : Int32)), (.ref b44)]) _
        refine own_st (fun t_ k_ => XS.bipush X219.here hx rfl (hb hby at_276) (XS.iushr X219.here hx rfl (hb hby at_278) rfl (XS.sipush X219.here hx rfl (hb hby at_279) (XS.iand X219.here hx rfl (hb hby at_282) rfl (XS.i2c X219.here hx rfl (hb hby at_283) rfl k_))))) ?_
        show own_Go p e below T219 (mkF m 284 #[.val (.int p0), .val (.int p1), .val (.int p2), .val (.int p3), .val (.int r_1), .val (.int r_2), .val (.int r_3), .val (.ref y_4), .val (.ref y_9), .val (.ref y_14), .val (.ref y_39), .val (.ref b44), .val (.int (8 : Int32))] [(.int ((((p2.toUInt32 >>> ((8 : Int32) &&& 31).toUInt32).toInt32) &&& (255 : Int32)).toUInt32.toUInt16.toUInt32.toInt32)), (.int (8 : Int32)), (.ref b44)]) _
        rw [own_iu8 p2, own_i255 (own_m255 (own_hi p2)).1 (own_m255 (own_hi p2)).2]
        show own_Go p e below T219 (mkF m 284 #[.val (.int p0), .val (.int p1), .val (.int p2), .val (.int p3), .val (.int r_1), .val (.int r_2), .val (.int r_3), .val (.ref y_4), .val (.ref y_9), .val (.ref y_14), .val (.ref y_39), .val (.ref b44), .val (.int (8 : Int32))] [(.int (own_hi p2 &&& (255 : Int32))), (.int (8 : Int32)), (.ref b44)]) _
        obtain ⟨cl222, Ar222, q222, Sz222, Nn222, Hh222, Gg222⟩ := id V219
        have hin222 : ¬ ((8 : Int32) < 0 ∨ cl222.slots.size ≤ ((8 : Int32)).toNatClampNeg) := inb_of Sz222 ⟨by decide, by decide⟩
        obtain ⟨T223, h223, X223, e223, W223, st223⟩ := stC X219 hx hZ e219 Ar222 (j := (8 : Int32)) hin222 (g := (mkF m 284 #[.val (.int p0), .val (.int p1), .val (.int p2), .val (.int p3), .val (.int r_1), .val (.int r_2), .val (.int r_3), .val (.ref y_4), .val (.ref y_9), .val (.ref y_14), .val (.ref y_39), .val (.ref b44), .val (.int (8 : Int32))] [(.int (own_hi p2 &&& (255 : Int32))), (.int (8 : Int32)), (.ref b44)])) rfl rfl (hb hby at_284)
        have V223 : Arv Z h223 b44 k44 .char (11 : Int32) [(.int (p0 &&& (255 : Int32))), (.int (32 : Int32)), (.int (91 : Int32)), (.int (p1 &&& (255 : Int32))), (.int (93 : Int32)), (.int (58 : Int32)), (.int (32 : Int32)), (.int (p2 &&& (255 : Int32))), (.int (nar .char (own_hi p2 &&& (255 : Int32)))), (.int (0 : Int32)), (.int (0 : Int32))] (.int (0 : Int32)) := Arv.set Ar222 q222 Sz222 Nn222 Hh222 Gg222 (fits_nar_char _) W223 8 rfl (Nat.le_of_ble_eq_true rfl)
        rw [own_nar (own_w255 (own_hi p2))] at V223
        have Sa224 : Safe Z own_EL T39.vm h219 b44 := (Safe.arv hZ.alike V219 (by decide))
        have CH224 := CH220.wr W223 Sa224
        have CR224 := CHr.trans CR220 (CHr.wr W223 Sa224 CH220)
        have K225 : Keep h0 h223 [] := K221.wr W223 (Or.inr B44)
        have N223 := Fr.snoc X223 N219 G44
        refine own_st st223 ?_
        show own_Go p e below T223 (mkF m 285 #[.val (.int p0), .val (.int p1), .val (.int p2), .val (.int p3), .val (.int r_1), .val (.int r_2), .val (.int r_3), .val (.ref y_4), .val (.ref y_9), .val (.ref y_14), .val (.ref y_39), .val (.ref b44), .val (.int (8 : Int32))] []) _
        refine own_st (fun t_ k_ => XS.iload X223.here hx rfl (hb hby at_285) rfl (XS.iconst X223.here hx rfl (hb hby at_287) (XS.iadd X223.here hx rfl (hb hby at_288) rfl (XS.istore X223.here hx rfl (hb hby at_289) rfl (l' := #[.val (.int p0), .val (.int p1), .val (.int p2), .val (.int p3), .val (.int r_1), .val (.int r_2), .val (.int r_3), .val (.ref y_4), .val (.ref y_9), .val (.ref y_14), .val (.ref y_39), .val (.ref b44), .val (.int (9 : Int32))]) rfl k_)))) ?_
        show own_Go p e below T223 (mkF m 291 #[.val (.int p0), .val (.int p1), .val (.int p2), .val (.int p3), .val (.int r_1), .val (.int r_2), .val (.int r_3), .val (.ref y_4), .val (.ref y_9), .val (.ref y_14), .val (.ref y_39), .val (.ref b44), .val (.int (9 : Int32))] []) _
        exact tail47 _ _ _ (9 : Int32) [(.int (0 : Int32)), (.int (0 : Int32))] X223 e223 N223 ((((((((((Keep.refl h44 [b44]).wr W163 (Or.inl (List.mem_of_getElem? (i := 0) rfl))).wr W167 (Or.inl (List.mem_of_getElem? (i := 0) rfl))).wr W171 (Or.inl (List.mem_of_getElem? (i := 0) rfl))).wr W199 (Or.inl (List.mem_of_getElem? (i := 0) rfl))).wr W203 (Or.inl (List.mem_of_getElem? (i := 0) rfl))).wr W207 (Or.inl (List.mem_of_getElem? (i := 0) rfl))).wr W211 (Or.inl (List.mem_of_getElem? (i := 0) rfl))).wr W219 (Or.inl (List.mem_of_getElem? (i := 0) rfl))).wr W223 (Or.inl (List.mem_of_getElem? (i := 0) rfl))) (by rw [hA0.2, hA1.2, hA2.2]; exact V223) (by rw [hA0.2, hA1.2, hA2.2]; rfl)
    · skip
      refine own_st (fun t_ k_ => XS.ifNo X171.here hx rfl (hb hby at_158) rfl ((if0 _ _).trans (tlt (show (0 : Int32) < r_2 from (by rw [hA1.1] <;> decide))).2.2.2) (XS.aload X171.here hx rfl (hb hby at_161) rfl rfl (XS.iload X171.here hx rfl (hb hby at_163) rfl (XS.iloadN X171.here hx rfl (hb hby at_165) rfl (XS.sipush X171.here hx rfl (hb hby at_166) (XS.iand X171.here hx rfl (hb hby at_169) rfl (XS.i2c X171.here hx rfl (hb hby at_170) rfl k_))))))) ?_
      show own_Go p e below T171 (mkF m 171 #[.val (.int p0), .val (.int p1), .val (.int p2), .val (.int p3), .val (.int r_1), .val (.int r_2), .val (.int r_3), .val (.ref y_4), .val (.ref y_9), .val (.ref y_14), .val (.ref y_39), .val (.ref b44), .val (.int (3 : Int32))] [(.int ((p1 &&& (255 : Int32)).toUInt32.toUInt16.toUInt32.toInt32)), (.int (3 : Int32)), (.ref b44)]) _
      rw [own_i255 (own_m255 p1).1 (own_m255 p1).2]
      show own_Go p e below T171 (mkF m 171 #[.val (.int p0), .val (.int p1), .val (.int p2), .val (.int p3), .val (.int r_1), .val (.int r_2), .val (.int r_3), .val (.ref y_4), .val (.ref y_9), .val (.ref y_14), .val (.ref y_39), .val (.ref b44), .val (.int (3 : Int32))] [(.int (p1 &&& (255 : Int32))), (.int (3 : Int32)), (.ref b44)]) _
      obtain ⟨cl226, Ar226, q226, Sz226, Nn226, Hh226, Gg226⟩ := id V171
      have hin226 : ¬ ((3 : Int32) < 0 ∨ cl226.slots.size ≤ ((3 : Int32)).toNatClampNeg) := inb_of Sz226 ⟨by decide, by decide⟩
      obtain ⟨T227, h227, X227, e227, W227, st227⟩ := stC X171 hx hZ e171 Ar226 (j := (3 : Int32)) hin226 (g := (mkF m 171 #[.val (.int p0), .val (.int p1), .val (.int p2), .val (.int p3), .val (.int r_1), .val (.int r_2), .val (.int r_3), .val (.ref y_4), .val (.ref y_9), .val (.ref y_14), .val (.ref y_39), .val (.ref b44), .val (.int (3 : Int32))] [(.int (p1 &&& (255 : Int32))), (.int (3 : Int32)), (.ref b44)])) rfl rfl (hb hby at_171)
      have V227 : Arv Z h227 b44 k44 .char (11 : Int32) [(.int (p0 &&& (255 : Int32))), (.int (32 : Int32)), (.int (91 : Int32)), (.int (nar .char (p1 &&& (255 : Int32)))), (.int (0 : Int32)), (.int (0 : Int32)), (.int (0 : Int32)), (.int (0 : Int32)), (.int (0 : Int32)), (.int (0 : Int32)), (.int (0 : Int32))] (.int (0 : Int32)) := Arv.set Ar226 q226 Sz226 Nn226 Hh226 Gg226 (fits_nar_char _) W227 3 rfl (Nat.le_of_ble_eq_true rfl)
      rw [own_nar (own_w255 p1)] at V227
      have Sa228 : Safe Z own_EL T39.vm h171 b44 := (Safe.arv hZ.alike V171 (by decide))
      have CH228 := CH172.wr W227 Sa228
      have CR228 := CHr.trans CR172 (CHr.wr W227 Sa228 CH172)
      have K229 : Keep h0 h227 [] := K173.wr W227 (Or.inr B44)
      have N227 := Fr.snoc X227 N171 G44
      refine own_st st227 ?_
      show own_Go p e below T227 (mkF m 172 #[.val (.int p0), .val (.int p1), .val (.int p2), .val (.int p3), .val (.int r_1), .val (.int r_2), .val (.int r_3), .val (.ref y_4), .val (.ref y_9), .val (.ref y_14), .val (.ref y_39), .val (.ref b44), .val (.int (3 : Int32))] []) _
      refine own_st (fun t_ k_ => XS.iload X227.here hx rfl (hb hby at_172) rfl (XS.iconst X227.here hx rfl (hb hby at_174) (XS.iadd X227.here hx rfl (hb hby at_175) rfl (XS.istore X227.here hx rfl (hb hby at_176) rfl (l' := #[.val (.int p0), .val (.int p1), .val (.int p2), .val (.int p3), .val (.int r_1), .val (.int r_2), .val (.int r_3), .val (.ref y_4), .val (.ref y_9), .val (.ref y_14), .val (.ref y_39), .val (.ref b44), .val (.int (4 : Int32))]) rfl (XS.iload X227.here hx rfl (hb hby at_178) rfl (XS.iconst X227.here hx rfl (hb hby at_180) (XS.icmpNo X227.here hx rfl (hb hby at_181) rfl (tlt (show (1 : Int32) < r_2 from (by rw [hA1.1] <;> decide))).2.2.2 (XS.aload X227.here hx rfl (hb hby at_184) rfl rfl (XS.iload X227.here hx rfl (hb hby at_186) rfl (XS.iloadN X227.here hx rfl (hb hby at_188) rfl k_)))))))))) ?_
      show own_Go p e below T227 (mkF m 189 #[.val (.int p0), .val (.int p1), .val (.int p2), .val (.int p3), .val (.int r_1), .val (.int r_2), .val (.int r_3), .val (.ref y_4), .val (.ref y_9), .val (.ref y_14), .val (.ref y_39), .val (.ref b44), .val (.int (4 : Int32))] [(.int p1), (.int (4 : Int32)), (.ref b44)]) _
      refine own_st (fun t_ k_ => XS.bipush X227.here hx rfl (hb hby at_189) (XS.iushr X227.here hx rfl (hb hby at_191) rfl (XS.sipush X227.here hx rfl (hb hby at_192) (XS.iand X227.here hx rfl (hb hby at_195) rfl (XS.i2c X227.here hx rfl (hb hby at_196) rfl k_))))) ?_
      show own_Go p e below T227 (mkF m 197 #[.val (.int p0), .val (.int p1), .val (.int p2), .val (.int p3), .val (.int r_1), .val (.int r_2), .val (.int r_3), .val (.ref y_4), .val (.ref y_9), .val (.ref y_14), .val (.ref y_39), .val (.ref b44), .val (.int (4 : Int32))] [(.int ((((p1.toUInt32 >>> ((8 : Int32) &&& 31).toUInt32).toInt32) &&& (255 : Int32)).toUInt32.toUInt16.toUInt32.toInt32)), (.int (4 : Int32)), (.ref b44)]) _
      rw [own_iu8 p1, own_i255 (own_m255 (own_hi p1)).1 (own_m255 (own_hi p1)).2]
      show own_Go p e below T227 (mkF m 197 #[.val (.int p0), .val (.int p1), .val (.int p2), .val (.int p3), .val (.int r_1), .val (.int r_2), .val (.int r_3), .val (.ref y_4), .val (.ref y_9), .val (.ref y_14), .val (.ref y_39), .val (.ref b44), .val (.int (4 : Int32))] [(.int (own_hi p1 &&& (255 : Int32))), (.int (4 : Int32)), (.ref b44)]) _
      obtain ⟨cl230, Ar230, q230, Sz230, Nn230, Hh230, Gg230⟩ := id V227
      have hin230 : ¬ ((4 : Int32) < 0 ∨ cl230.slots.size ≤ ((4 : Int32)).toNatClampNeg) := inb_of Sz230 ⟨by decide, by decide⟩
      obtain ⟨T231, h231, X231, e231, W231, st231⟩ := stC X227 hx hZ e227 Ar230 (j := (4 : Int32)) hin230 (g := (mkF m 197 #[.val (.int p0), .val (.int p1), .val (.int p2), .val (.int p3), .val (.int r_1), .val (.int r_2), .val (.int r_3), .val (.ref y_4), .val (.ref y_9), .val (.ref y_14), .val (.ref y_39), .val (.ref b44), .val (.int (4 : Int32))] [(.int (own_hi p1 &&& (255 : Int32))), (.int (4 : Int32)), (.ref b44)])) rfl rfl (hb hby at_197)
      have V231 : Arv Z h231 b44 k44 .char (11 : Int32) [(.int (p0 &&& (255 : Int32))), (.int (32 : Int32)), (.int (91 : Int32)), (.int (p1 &&& (255 : Int32))), (.int (nar .char (own_hi p1 &&& (255 : Int32)))), (.int (0 : Int32)), (.int (0 : Int32)), (.int (0 : Int32)), (.int (0 : Int32)), (.int (0 : Int32)), (.int (0 : Int32))] (.int (0 : Int32)) := Arv.set Ar230 q230 Sz230 Nn230 Hh230 Gg230 (fits_nar_char _) W231 4 rfl (Nat.le_of_ble_eq_true rfl)
      rw [own_nar (own_w255 (own_hi p1))] at V231
      have Sa232 : Safe Z own_EL T39.vm h227 b44 := (Safe.arv hZ.alike V227 (by decide))
      have CH232 := CH228.wr W231 Sa232
      have CR232 := CHr.trans CR228 (CHr.wr W231 Sa232 CH228)
      have K233 : Keep h0 h231 [] := K229.wr W231 (Or.inr B44)
      have N231 := Fr.snoc X231 N227 G44
      refine own_st st231 ?_
      show own_Go p e below T231 (mkF m 198 #[.val (.int p0), .val (.int p1), .val (.int p2), .val (.int p3), .val (.int r_1), .val (.int r_2), .val (.int r_3), .val (.ref y_4), .val (.ref y_9), .val (.ref y_14), .val (.ref y_39), .val (.ref b44), .val (.int (4 : Int32))] []) _
      refine own_st (fun t_ k_ => XS.iload X231.here hx rfl (hb hby at_198) rfl (XS.iconst X231.here hx rfl (hb hby at_200) (XS.iadd X231.here hx rfl (hb hby at_201) rfl (XS.istore X231.here hx rfl (hb hby at_202) rfl (l' := #[.val (.int p0), .val (.int p1), .val (.int p2), .val (.int p3), .val (.int r_1), .val (.int r_2), .val (.int r_3), .val (.ref y_4), .val (.ref y_9), .val (.ref y_14), .val (.ref y_39), .val (.ref b44), .val (.int (5 : Int32))]) rfl (XS.aload X231.here hx rfl (hb hby at_204) rfl rfl (XS.iload X231.here hx rfl (hb hby at_206) rfl (XS.bipush X231.here hx rfl (hb hby at_208) k_))))))) ?_
      show own_Go p e below T231 (mkF m 210 #[.val (.int p0), .val (.int p1), .val (.int p2), .val (.int p3), .val (.int r_1), .val (.int r_2), .val (.int r_3), .val (.ref y_4), .val (.ref y_9), .val (.ref y_14), .val (.ref y_39), .val (.ref b44), .val (.int (5 : Int32))] [(.int (93 : Int32)), (.int (5 : Int32)), (.ref b44)]) _
      obtain ⟨cl234, Ar234, q234, Sz234, Nn234, Hh234, Gg234⟩ := id V231
      have hin234 : ¬ ((5 : Int32) < 0 ∨ cl234.slots.size ≤ ((5 : Int32)).toNatClampNeg) := inb_of Sz234 ⟨by decide, by decide⟩
      obtain ⟨T235, h235, X235, e235, W235, st235⟩ := stC X231 hx hZ e231 Ar234 (j := (5 : Int32)) hin234 (g := (mkF m 210 #[.val (.int p0), .val (.int p1), .val (.int p2), .val (.int p3), .val (.int r_1), .val (.int r_2), .val (.int r_3), .val (.ref y_4), .val (.ref y_9), .val (.ref y_14), .val (.ref y_39), .val (.ref b44), .val (.int (5 : Int32))] [(.int (93 : Int32)), (.int (5 : Int32)), (.ref b44)])) rfl rfl (hb hby at_210)
      have V235 : Arv Z h235 b44 k44 .char (11 : Int32) [(.int (p0 &&& (255 : Int32))), (.int (32 : Int32)), (.int (91 : Int32)), (.int (p1 &&& (255 : Int32))), (.int (own_hi p1 &&& (255 : Int32))), (.int (nar .char (93 : Int32))), (.int (0 : Int32)), (.int (0 : Int32)), (.int (0 : Int32)), (.int (0 : Int32)), (.int (0 : Int32))] (.int (0 : Int32)) := Arv.set Ar234 q234 Sz234 Nn234 Hh234 Gg234 (fits_nar_char _) W235 5 rfl (Nat.le_of_ble_eq_true rfl)
      rw [(show nar .char (93 : Int32) = (93 : Int32) from rfl)] at V235
      have Sa236 : Safe Z own_EL T39.vm h231 b44 := (Safe.arv hZ.alike V231 (by decide))
      have CH236 := CH232.wr W235 Sa236
      have CR236 := CHr.trans CR232 (CHr.wr W235 Sa236 CH232)
      have K237 : Keep h0 h235 [] := K233.wr W235 (Or.inr B44)
      have N235 := Fr.snoc X235 N231 G44
      refine own_st st235 ?_
      show own_Go p e below T235 (mkF m 211 #[.val (.int p0), .val (.int p1), .val (.int p2), .val (.int p3), .val (.int r_1), .val (.int r_2), .val (.int r_3), .val (.ref y_4), .val (.ref y_9), .val (.ref y_14), .val (.ref y_39), .val (.ref b44), .val (.int (5 : Int32))] []) _
      refine own_st (fun t_ k_ => XS.iload X235.here hx rfl (hb hby at_211) rfl (XS.iconst X235.here hx rfl (hb hby at_213) (XS.iadd X235.here hx rfl (hb hby at_214) rfl (XS.istore X235.here hx rfl (hb hby at_215) rfl (l' := #[.val (.int p0), .val (.int p1), .val (.int p2), .val (.int p3), .val (.int r_1), .val (.int r_2), .val (.int r_3), .val (.ref y_4), .val (.ref y_9), .val (.ref y_14), .val (.ref y_39), .val (.ref b44), .val (.int (6 : Int32))]) rfl (XS.aload X235.here hx rfl (hb hby at_217) rfl rfl (XS.iload X235.here hx rfl (hb hby at_219) rfl (XS.bipush X235.here hx rfl (hb hby at_221) k_))))))) ?_
      show own_Go p e below T235 (mkF m 223 #[.val (.int p0), .val (.int p1), .val (.int p2), .val (.int p3), .val (.int r_1), .val (.int r_2), .val (.int r_3), .val (.ref y_4), .val (.ref y_9), .val (.ref y_14), .val (.ref y_39), .val (.ref b44), .val (.int (6 : Int32))] [(.int (58 : Int32)), (.int (6 : Int32)), (.ref b44)]) _
      obtain ⟨cl238, Ar238, q238, Sz238, Nn238, Hh238, Gg238⟩ := id V235
      have hin238 : ¬ ((6 : Int32) < 0 ∨ cl238.slots.size ≤ ((6 : Int32)).toNatClampNeg) := inb_of Sz238 ⟨by decide, by decide⟩
      obtain ⟨T239, h239, X239, e239, W239, st239⟩ := stC X235 hx hZ e235 Ar238 (j := (6 : Int32)) hin238 (g := (mkF m 223 #[.val (.int p0), .val (.int p1), .val (.int p2), .val (.int p3), .val (.int r_1), .val (.int r_2), .val (.int r_3), .val (.ref y_4), .val (.ref y_9), .val (.ref y_14), .val (.ref y_39), .val (.ref b44), .val (.int (6 : Int32))] [(.int (58 : Int32)), (.int (6 : Int32)), (.ref b44)])) rfl rfl (hb hby at_223)
      have V239 : Arv Z h239 b44 k44 .char (11 : Int32) [(.int (p0 &&& (255 : Int32))), (.int (32 : Int32)), (.int (91 : Int32)), (.int (p1 &&& (255 : Int32))), (.int (own_hi p1 &&& (255 : Int32))), (.int (93 : Int32)), (.int (nar .char (58 : Int32))), (.int (0 : Int32)), (.int (0 : Int32)), (.int (0 : Int32)), (.int (0 : Int32))] (.int (0 : Int32)) := Arv.set Ar238 q238 Sz238 Nn238 Hh238 Gg238 (fits_nar_char _) W239 6 rfl (Nat.le_of_ble_eq_true rfl)
      rw [(show nar .char (58 : Int32) = (58 : Int32) from rfl)] at V239
      have Sa240 : Safe Z own_EL T39.vm h235 b44 := (Safe.arv hZ.alike V235 (by decide))
      have CH240 := CH236.wr W239 Sa240
      have CR240 := CHr.trans CR236 (CHr.wr W239 Sa240 CH236)
      have K241 : Keep h0 h239 [] := K237.wr W239 (Or.inr B44)
      have N239 := Fr.snoc X239 N235 G44
      refine own_st st239 ?_
      show own_Go p e below T239 (mkF m 224 #[.val (.int p0), .val (.int p1), .val (.int p2), .val (.int p3), .val (.int r_1), .val (.int r_2), .val (.int r_3), .val (.ref y_4), .val (.ref y_9), .val (.ref y_14), .val (.ref y_39), .val (.ref b44), .val (.int (6 : Int32))] []) _
      refine own_st (fun t_ k_ => XS.iload X239.here hx rfl (hb hby at_224) rfl (XS.iconst X239.here hx rfl (hb hby at_226) (XS.iadd X239.here hx rfl (hb hby at_227) rfl (XS.istore X239.here hx rfl (hb hby at_228) rfl (l' := #[.val (.int p0), .val (.int p1), .val (.int p2), .val (.int p3), .val (.int r_1), .val (.int r_2), .val (.int r_3), .val (.ref y_4), .val (.ref y_9), .val (.ref y_14), .val (.ref y_39), .val (.ref b44), .val (.int (7 : Int32))]) rfl (XS.aload X239.here hx rfl (hb hby at_230) rfl rfl (XS.iload X239.here hx rfl (hb hby at_232) rfl (XS.bipush X239.here hx rfl (hb hby at_234) k_))))))) ?_
      show own_Go p e below T239 (mkF m 236 #[.val (.int p0), .val (.int p1), .val (.int p2), .val (.int p3), .val (.int r_1), .val (.int r_2), .val (.int r_3), .val (.ref y_4), .val (.ref y_9), .val (.ref y_14), .val (.ref y_39), .val (.ref b44), .val (.int (7 : Int32))] [(.int (32 : Int32)), (.int (7 : Int32)), (.ref b44)]) _
      obtain ⟨cl242, Ar242, q242, Sz242, Nn242, Hh242, Gg242⟩ := id V239
      have hin242 : ¬ ((7 : Int32) < 0 ∨ cl242.slots.size ≤ ((7 : Int32)).toNatClampNeg) := inb_of Sz242 ⟨by decide, by decide⟩
      obtain ⟨T243, h243, X243, e243, W243, st243⟩ := stC X239 hx hZ e239 Ar242 (j := (7 : Int32)) hin242 (g := (mkF m 236 #[.val (.int p0), .val (.int p1), .val (.int p2), .val (.int p3), .val (.int r_1), .val (.int r_2), .val (.int r_3), .val (.ref y_4), .val (.ref y_9), .val (.ref y_14), .val (.ref y_39), .val (.ref b44), .val (.int (7 : Int32))] [(.int (32 : Int32)), (.int (7 : Int32)), (.ref b44)])) rfl rfl (hb hby at_236)
      have V243 : Arv Z h243 b44 k44 .char (11 : Int32) [(.int (p0 &&& (255 : Int32))), (.int (32 : Int32)), (.int (91 : Int32)), (.int (p1 &&& (255 : Int32))), (.int (own_hi p1 &&& (255 : Int32))), (.int (93 : Int32)), (.int (58 : Int32)), (.int (nar .char (32 : Int32))), (.int (0 : Int32)), (.int (0 : Int32)), (.int (0 : Int32))] (.int (0 : Int32)) := Arv.set Ar242 q242 Sz242 Nn242 Hh242 Gg242 (fits_nar_char _) W243 7 rfl (Nat.le_of_ble_eq_true rfl)
      rw [(show nar .char (32 : Int32) = (32 : Int32) from rfl)] at V243
      have Sa244 : Safe Z own_EL T39.vm h239 b44 := (Safe.arv hZ.alike V239 (by decide))
      have CH244 := CH240.wr W243 Sa244
      have CR244 := CHr.trans CR240 (CHr.wr W243 Sa244 CH240)
      have K245 : Keep h0 h243 [] := K241.wr W243 (Or.inr B44)
      have N243 := Fr.snoc X243 N239 G44
      refine own_st st243 ?_
      show own_Go p e below T243 (mkF m 237 #[.val (.int p0), .val (.int p1), .val (.int p2), .val (.int p3), .val (.int r_1), .val (.int r_2), .val (.int r_3), .val (.ref y_4), .val (.ref y_9), .val (.ref y_14), .val (.ref y_39), .val (.ref b44), .val (.int (7 : Int32))] []) _
      refine own_st (fun t_ k_ => XS.iload X243.here hx rfl (hb hby at_237) rfl (XS.iconst X243.here hx rfl (hb hby at_239) (XS.iadd X243.here hx rfl (hb hby at_240) rfl (XS.istore X243.here hx rfl (hb hby at_241) rfl (l' := #[.val (.int p0), .val (.int p1), .val (.int p2), .val (.int p3), .val (.int r_1), .val (.int r_2), .val (.int r_3), .val (.ref y_4), .val (.ref y_9), .val (.ref y_14), .val (.ref y_39), .val (.ref b44), .val (.int (8 : Int32))]) rfl (XS.iload X243.here hx rfl (hb hby at_243) rfl k_))))) ?_
      show own_Go p e below T243 (mkF m 245 #[.val (.int p0), .val (.int p1), .val (.int p2), .val (.int p3), .val (.int r_1), .val (.int r_2), .val (.int r_3), .val (.ref y_4), .val (.ref y_9), .val (.ref y_14), .val (.ref y_39), .val (.ref b44), .val (.int (8 : Int32))] [(.int r_3)]) _
      rcases hM2 with hA2 | hA2 | hA2
      · skip
        refine own_st (fun t_ k_ => XS.ifYes X243.here hx rfl (pc0 := 245) (pc' := 265) rfl (hb hby at_245) rfl ((if0 _ _).trans (flt (show ¬ ((0 : Int32) < r_3) from (by rw [hA2.1] <;> decide))).2.2.2) (by decide) (by decide) (XS.iload X243.here hx rfl (hb hby at_265) rfl (XS.iconst X243.here hx rfl (hb hby at_267) (XS.icmpYes X243.here hx rfl (pc0 := 268) (pc' := 291) rfl (hb hby at_268) rfl (flt (show ¬ ((1 : Int32) < r_3) from (by rw [hA2.1] <;> decide))).2.2.2 (by decide) (by decide) k_)))) ?_
        show own_Go p e below T243 (mkF m 291 #[.val (.int p0), .val (.int p1), .val (.int p2), .val (.int p3), .val (.int r_1), .val (.int r_2), .val (.int r_3), .val (.ref y_4), .val (.ref y_9), .val (.ref y_14), .val (.ref y_39), .val (.ref b44), .val (.int (8 : Int32))] []) _
        exact tail47 _ _ _ (8 : Int32) [(.int (0 : Int32)), (.int (0 : Int32)), (.int (0 : Int32))] X243 e243 N243 (((((((((Keep.refl h44 [b44]).wr W163 (Or.inl (List.mem_of_getElem? (i := 0) rfl))).wr W167 (Or.inl (List.mem_of_getElem? (i := 0) rfl))).wr W171 (Or.inl (List.mem_of_getElem? (i := 0) rfl))).wr W227 (Or.inl (List.mem_of_getElem? (i := 0) rfl))).wr W231 (Or.inl (List.mem_of_getElem? (i := 0) rfl))).wr W235 (Or.inl (List.mem_of_getElem? (i := 0) rfl))).wr W239 (Or.inl (List.mem_of_getElem? (i := 0) rfl))).wr W243 (Or.inl (List.mem_of_getElem? (i := 0) rfl))) (by rw [hA0.2, hA1.2, hA2.2]; exact V243) (by rw [hA0.2, hA1.2, hA2.2]; rfl)
      · skip
        refine own_st (fun t_ k_ => XS.ifNo X243.here hx rfl (hb hby at_245) rfl ((if0 _ _).trans (tlt (show (0 : Int32) < r_3 from (by rw [hA2.1] <;> decide))).2.2.2) (XS.aload X243.here hx rfl (hb hby at_248) rfl rfl (XS.iload X243.here hx rfl (hb hby at_250) rfl (XS.iloadN X243.here hx rfl (hb hby at_252) rfl (XS.sipush X243.here hx rfl (hb hby at_253) (XS.iand X243.here hx rfl (hb hby at_256) rfl (XS.i2c X243.here hx rfl (hb hby at_257) rfl k_))))))) ?_
        show own_Go p e below T243 (mkF m 258 #[.val (.int p0), .val (.int p1), .val (.int p2), .val (.int p3), .val (.int r_1), .val (.int r_2), .val (.int r_3), .val (.ref y_4), .val (.ref y_9), .val (.ref y_14), .val (.ref y_39), .val (.ref b44), .val (.int (8 : Int32))] [(.int ((p2 &&& (255 : Int32)).toUInt32.toUInt16.toUInt32.toInt32)), (.int (8 : Int32)), (.ref b44)]) _
        rw [own_i255 (own_m255 p2).1 (own_m255 p2).2]
        show own_Go p e below T243 (mkF m 258 #[.val (.int p0), .val (.int p1), .val (.int p2), .val (.int p3), .val (.int r_1), .val (.int r_2), .val (.int r_3), .val (.ref y_4), .val (.ref y_9), .val (.ref y_14), .val (.ref y_39), .val (.ref b44), .val (.int (8 : Int32))] [(.int (p2 &&& (255 : Int32))), (.int (8 : Int32)), (.ref b44)]) _
        obtain ⟨cl246, Ar246, q246, Sz246, Nn246, Hh246, Gg246⟩ := id V243
        have hin246 : ¬ ((8 : Int32) < 0 ∨ cl246.slots.size ≤ ((8 : Int32)).toNatClampNeg) := inb_of Sz246 ⟨by decide, by decide⟩
        obtain ⟨T247, h247, X247, e247, W247, st247⟩ := stC X243 hx hZ e243 Ar246 (j := (8 : Int32)) hin246 (g := (mkF m 258 #[.val (.int p0), .val (.int p1), .val (.int p2), .val (.int p3), .val (.int r_1), .val (.int r_2), .val (.int r_3), .val (.ref y_4), .val (.ref y_9), .val (.ref y_14), .val (.ref y_39), .val (.ref b44), .val (.int (8 : Int32))] [(.int (p2 &&& (255 : Int32))), (.int (8 : Int32)), (.ref b44)])) rfl rfl (hb hby at_258)
        have V247 : Arv Z h247 b44 k44 .char (11 : Int32) [(.int (p0 &&& (255 : Int32))), (.int (32 : Int32)), (.int (91 : Int32)), (.int (p1 &&& (255 : Int32))), (.int (own_hi p1 &&& (255 : Int32))), (.int (93 : Int32)), (.int (58 : Int32)), (.int (32 : Int32)), (.int (nar .char (p2 &&& (255 : Int32)))), (.int (0 : Int32)), (.int (0 : Int32))] (.int (0 : Int32)) := Arv.set Ar246 q246 Sz246 Nn246 Hh246 Gg246 (fits_nar_char _) W247 8 rfl (Nat.le_of_ble_eq_true rfl)
        rw [own_nar (own_w255 p2)] at V247
        have Sa248 : Safe Z own_EL T39.vm h243 b44 := (Safe.arv hZ.alike V243 (by decide))
        have CH248 := CH244.wr W247 Sa248
        have CR248 := CHr.trans CR244 (CHr.wr W247 Sa248 CH244)
        have K249 : Keep h0 h247 [] := K245.wr W247 (Or.inr B44)
        have N247 := Fr.snoc X247 N243 G44
        refine own_st st247 ?_
        show own_Go p e below T247 (mkF m 259 #[.val (.int p0), .val (.int p1), .val (.int p2), .val (.int p3), .val (.int r_1), .val (.int r_2), .val (.int r_3), .val (.ref y_4), .val (.ref y_9), .val (.ref y_14), .val (.ref y_39), .val (.ref b44), .val (.int (8 : Int32))] []) _
        refine own_st (fun t_ k_ => XS.iload X247.here hx rfl (hb hby at_259) rfl (XS.iconst X247.here hx rfl (hb hby at_261) (XS.iadd X247.here hx rfl (hb hby at_262) rfl (XS.istore X247.here hx rfl (hb hby at_263) rfl (l' := #[.val (.int p0), .val (.int p1), .val (.int p2), .val (.int p3), .val (.int r_1), .val (.int r_2), .val (.int r_3), .val (.ref y_4), .val (.ref y_9), .val (.ref y_14), .val (.ref y_39), .val (.ref b44), .val (.int (9 : Int32))]) rfl (XS.iload X247.here hx rfl (hb hby at_265) rfl (XS.iconst X247.here hx rfl (hb hby at_267) (XS.icmpYes X247.here hx rfl (pc0 := 268) (pc' := 291) rfl (hb hby at_268) rfl (flt (show ¬ ((1 : Int32) < r_3) from (by rw [hA2.1] <;> decide))).2.2.2 (by decide) (by decide) k_))))))) ?_
        show own_Go p e below T247 (mkF m 291 #[.val (.int p0), .val (.int p1), .val (.int p2), .val (.int p3), .val (.int r_1), .val (.int r_2), .val (.int r_3), .val (.ref y_4), .val (.ref y_9), .val (.ref y_14), .val (.ref y_39), .val (.ref b44), .val (.int (9 : Int32))] []) _
        exact tail47 _ _ _ (9 : Int32) [(.int (0 : Int32)), (.int (0 : Int32))] X247 e247 N247 ((((((((((Keep.refl h44 [b44]).wr W163 (Or.inl (List.mem_of_getElem? (i := 0) rfl))).wr W167 (Or.inl (List.mem_of_getElem? (i := 0) rfl))).wr W171 (Or.inl (List.mem_of_getElem? (i := 0) rfl))).wr W227 (Or.inl (List.mem_of_getElem? (i := 0) rfl))).wr W231 (Or.inl (List.mem_of_getElem? (i := 0) rfl))).wr W235 (Or.inl (List.mem_of_getElem? (i := 0) rfl))).wr W239 (Or.inl (List.mem_of_getElem? (i := 0) rfl))).wr W243 (Or.inl (List.mem_of_getElem? (i := 0) rfl))).wr W247 (Or.inl (List.mem_of_getElem? (i := 0) rfl))) (by rw [hA0.2, hA1.2, hA2.2]; exact V247) (by rw [hA0.2, hA1.2, hA2.2]; rfl)
      · skip
        refine own_st (fun t_ k_ => XS.ifNo X243.here hx rfl (hb hby at_245) rfl ((if0 _ _).trans (tlt (show (0 : Int32) < r_3 from (by rw [hA2.1] <;> decide))).2.2.2) (XS.aload X243.here hx rfl (hb hby at_248) rfl rfl (XS.iload X243.here hx rfl (hb hby at_250) rfl (XS.iloadN X243.here hx rfl (hb hby at_252) rfl (XS.sipush X243.here hx rfl (hb hby at_253) (XS.iand X243.here hx rfl (hb hby at_256) rfl (XS.i2c X243.here hx rfl (hb hby at_257) rfl k_))))))) ?_
        show own_Go p e below T243 (mkF m 258 #[.val (.int p0), .val (.int p1), .val (.int p2), .val (.int p3), .val (.int r_1), .val (.int r_2), .val (.int r_3), .val (.ref y_4), .val (.ref y_9), .val (.ref y_14), .val (.ref y_39), .val (.ref b44), .val (.int (8 : Int32))] [(.int ((p2 &&& (255 : Int32)).toUInt32.toUInt16.toUInt32.toInt32)), (.int (8 : Int32)), (.ref b44)]) _
        rw [own_i255 (own_m255 p2).1 (own_m255 p2).2]
        show own_Go p e below T243 (mkF m 258 #[.val (.int p0), .val (.int p1), .val (.int p2), .val (.int p3), .val (.int r_1), .val (.int r_2), .val (.int r_3), .val (.ref y_4), .val (.ref y_9), .val (.ref y_14), .val (.ref y_39), .val (.ref b44), .val (.int (8 : Int32))] [(.int (p2 &&& (255 : Int32))), (.int (8 : Int32)), (.ref b44)]) _
        obtain ⟨cl250, Ar250, q250, Sz250, Nn250, Hh250, Gg250⟩ := id V243
        have hin250 : ¬ ((8 : Int32) < 0 ∨ cl250.slots.size ≤ ((8 : Int32)).toNatClampNeg) := inb_of Sz250 ⟨by decide, by decide⟩
        obtain ⟨T251, h251, X251, e251, W251, st251⟩ := stC X243 hx hZ e243 Ar250 (j := (8 : Int32)) hin250 (g := (mkF m 258 #[.val (.int p0), .val (.int p1), .val (.int p2), .val (.int p3), .val (.int r_1), .val (.int r_2), .val (.int r_3), .val (.ref y_4), .val (.ref y_9), .val (.ref y_14), .val (.ref y_39), .val (.ref b44), .val (.int (8 : Int32))] [(.int (p2 &&& (255 : Int32))), (.int (8 : Int32)), (.ref b44)])) rfl rfl (hb hby at_258)
        have V251 : Arv Z h251 b44 k44 .char (11 : Int32) [(.int (p0 &&& (255 : Int32))), (.int (32 : Int32)), (.int (91 : Int32)), (.int (p1 &&& (255 : Int32))), (.int (own_hi p1 &&& (255 : Int32))), (.int (93 : Int32)), (.int (58 : Int32)), (.int (32 : Int32)), (.int (nar .char (p2 &&& (255 : Int32)))), (.int (0 : Int32)), (.int (0 : Int32))] (.int (0 : Int32)) := Arv.set Ar250 q250 Sz250 Nn250 Hh250 Gg250 (fits_nar_char _) W251 8 rfl (Nat.le_of_ble_eq_true rfl)
        rw [own_nar (own_w255 p2)] at V251
        have Sa252 : Safe Z own_EL T39.vm h243 b44 := (Safe.arv hZ.alike V243 (by decide))
        have CH252 := CH244.wr W251 Sa252
        have CR252 := CHr.trans CR244 (CHr.wr W251 Sa252 CH244)
        have K253 : Keep h0 h251 [] := K245.wr W251 (Or.inr B44)
        have N251 := Fr.snoc X251 N243 G44
        refine own_st st251 ?_
        show own_Go p e below T251 (mkF m 259 #[.val (.int p0), .val (.int p1), .val (.int p2), .val (.int p3), .val (.int r_1), .val (.int r_2), .val (.int r_3), .val (.ref y_4), .val (.ref y_9), .val (.ref y_14), .val (.ref y_39), .val (.ref b44), .val (.int (8 : Int32))] []) _
        refine own_st (fun t_ k_ => XS.iload X251.here hx rfl (hb hby at_259) rfl (XS.iconst X251.here hx rfl (hb hby at_261) (XS.iadd X251.here hx rfl (hb hby at_262) rfl (XS.istore X251.here hx rfl (hb hby at_263) rfl (l' := #[.val (.int p0), .val (.int p1), .val (.int p2), .val (.int p3), .val (.int r_1), .val (.int r_2), .val (.int r_3), .val (.ref y_4), .val (.ref y_9), .val (.ref y_14), .val (.ref y_39), .val (.ref b44), .val (.int (9 : Int32))]) rfl (XS.iload X251.here hx rfl (hb hby at_265) rfl (XS.iconst X251.here hx rfl (hb hby at_267) (XS.icmpNo X251.here hx rfl (hb hby at_268) rfl (tlt (show (1 : Int32) < r_3 from (by rw [hA2.1] <;> decide))).2.2.2 (XS.aload X251.here hx rfl (hb hby at_271) rfl rfl (XS.iload X251.here hx rfl (hb hby at_273) rfl (XS.iloadN X251.here hx rfl (hb hby at_275) rfl k_)))))))))) ?_
        show own_Go p e below T251 (mkF m 276 #[.val (.int p0), .val (.int p1), .val (.int p2), .val (.int p3), .val (.int r_1), .val (.int r_2), .val (.int r_3), .val (.ref y_4), .val (.ref y_9), .val (.ref y_14), .val (.ref y_39), .val (.ref b44), .val (.int (9 : Int32))] [(.int p2), (.int (9 : Int32)), (.ref b44)]) _
        refine own_st (fun t_ k_ => XS.bipush X251.here hx rfl (hb hby at_276) (XS.iushr X251.here hx rfl (hb hby at_278) rfl (XS.sipush X251.here hx rfl (hb hby at_279) (XS.iand X251.here hx rfl (hb hby at_282) rfl (XS.i2c X251.here hx rfl (hb hby at_283) rfl k_))))) ?_
        show own_Go p e below T251 (mkF m 284 #[.val (.int p0), .val (.int p1), .val (.int p2), .val (.int p3), .val (.int r_1), .val (.int r_2), .val (.int r_3), .val (.ref y_4), .val (.ref y_9), .val (.ref y_14), .val (.ref y_39), .val (.ref b44), .val (.int (9 : Int32))] [(.int ((((p2.toUInt32 >>> ((8 : Int32) &&& 31).toUInt32).toInt32) &&& (255 : Int32)).toUInt32.toUInt16.toUInt32.toInt32)), (.int (9 : Int32)), (.ref b44)]) _
        rw [own_iu8 p2, own_i255 (own_m255 (own_hi p2)).1 (own_m255 (own_hi p2)).2]
        show own_Go p e below T251 (mkF m 284 #[.val (.int p0), .val (.int p1), .val (.int p2), .val (.int p3), .val (.int r_1), .val (.int r_2), .val (.int r_3), .val (.ref y_4), .val (.ref y_9), .val (.ref y_14), .val (.ref y_39), .val (.ref b44), .val (.int (9 : Int32))] [(.int (own_hi p2 &&& (255 : Int32))), (.int (9 : Int32)), (.ref b44)]) _
        obtain ⟨cl254, Ar254, q254, Sz254, Nn254, Hh254, Gg254⟩ := id V251
        have hin254 : ¬ ((9 : Int32) < 0 ∨ cl254.slots.size ≤ ((9 : Int32)).toNatClampNeg) := inb_of Sz254 ⟨by decide, by decide⟩
        obtain ⟨T255, h255, X255, e255, W255, st255⟩ := stC X251 hx hZ e251 Ar254 (j := (9 : Int32)) hin254 (g := (mkF m 284 #[.val (.int p0), .val (.int p1), .val (.int p2), .val (.int p3), .val (.int r_1), .val (.int r_2), .val (.int r_3), .val (.ref y_4), .val (.ref y_9), .val (.ref y_14), .val (.ref y_39), .val (.ref b44), .val (.int (9 : Int32))] [(.int (own_hi p2 &&& (255 : Int32))), (.int (9 : Int32)), (.ref b44)])) rfl rfl (hb hby at_284)
        have V255 : Arv Z h255 b44 k44 .char (11 : Int32) [(.int (p0 &&& (255 : Int32))), (.int (32 : Int32)), (.int (91 : Int32)), (.int (p1 &&& (255 : Int32))), (.int (own_hi p1 &&& (255 : Int32))), (.int (93 : Int32)), (.int (58 : Int32)), (.int (32 : Int32)), (.int (p2 &&& (255 : Int32))), (.int (nar .char (own_hi p2 &&& (255 : Int32)))), (.int (0 : Int32))] (.int (0 : Int32)) := Arv.set Ar254 q254 Sz254 Nn254 Hh254 Gg254 (fits_nar_char _) W255 9 rfl (Nat.le_of_ble_eq_true rfl)
        rw [own_nar (own_w255 (own_hi p2))] at V255
        have Sa256 : Safe Z own_EL T39.vm h251 b44 := (Safe.arv hZ.alike V251 (by decide))
        have CH256 := CH252.wr W255 Sa256
        have CR256 := CHr.trans CR252 (CHr.wr W255 Sa256 CH252)
        have K257 : Keep h0 h255 [] := K253.wr W255 (Or.inr B44)
        have N255 := Fr.snoc X255 N251 G44
        refine own_st st255 ?_
        show own_Go p e below T255 (mkF m 285 #[.val (.int p0), .val (.int p1), .val (.int p2), .val (.int p3), .val (.int r_1), .val (.int r_2), .val (.int r_3), .val (.ref y_4), .val (.ref y_9), .val (.ref y_14), .val (.ref y_39), .val (.ref b44), .val (.int (9 : Int32))] []) _
        refine own_st (fun t_ k_ => XS.iload X255.here hx rfl (hb hby at_285) rfl (XS.iconst X255.here hx rfl (hb hby at_287) (XS.iadd X255.here hx rfl (hb hby at_288) rfl (XS.istore X255.here hx rfl (hb hby at_289) rfl (l' := #[.val (.int p0), .val (.int p1), .val (.int p2), .val (.int p3), .val (.int r_1), .val (.int r_2), .val (.int r_3), .val (.ref y_4), .val (.ref y_9), .val (.ref y_14), .val (.ref y_39), .val (.ref b44), .val (.int (10 : Int32))]) rfl k_)))) ?_
        show own_Go p e below T255 (mkF m 291 #[.val (.int p0), .val (.int p1), .val (.int p2), .val (.int p3), .val (.int r_1), .val (.int r_2), .val (.int r_3), .val (.ref y_4), .val (.ref y_9), .val (.ref y_14), .val (.ref y_39), .val (.ref b44), .val (.int (10 : Int32))] []) _
        exact tail47 _ _ _ (10 : Int32) [(.int (0 : Int32))] X255 e255 N255 (((((((((((Keep.refl h44 [b44]).wr W163 (Or.inl (List.mem_of_getElem? (i := 0) rfl))).wr W167 (Or.inl (List.mem_of_getElem? (i := 0) rfl))).wr W171 (Or.inl (List.mem_of_getElem? (i := 0) rfl))).wr W227 (Or.inl (List.mem_of_getElem? (i := 0) rfl))).wr W231 (Or.inl (List.mem_of_getElem? (i := 0) rfl))).wr W235 (Or.inl (List.mem_of_getElem? (i := 0) rfl))).wr W239 (Or.inl (List.mem_of_getElem? (i := 0) rfl))).wr W243 (Or.inl (List.mem_of_getElem? (i := 0) rfl))).wr W251 (Or.inl (List.mem_of_getElem? (i := 0) rfl))).wr W255 (Or.inl (List.mem_of_getElem? (i := 0) rfl))) (by rw [hA0.2, hA1.2, hA2.2]; exact V255) (by rw [hA0.2, hA1.2, hA2.2]; rfl)
  · skip
    refine own_st (fun t_ k_ => XS.ifNo X44.here hx rfl (hb hby at_84) rfl ((if0 _ _).trans (tlt (show (0 : Int32) < r_1 from (by rw [hA0.1] <;> decide))).2.2.2) (XS.aload X44.here hx rfl (hb hby at_87) rfl rfl (XS.iload X44.here hx rfl (hb hby at_89) rfl (XS.iloadN X44.here hx rfl (hb hby at_91) rfl (XS.sipush X44.here hx rfl (hb hby at_92) (XS.iand X44.here hx rfl (hb hby at_95) rfl (XS.i2c X44.here hx rfl (hb hby at_96) rfl k_))))))) ?_
    show own_Go p e below T44 (mkF m 97 #[.val (.int p0), .val (.int p1), .val (.int p2), .val (.int p3), .val (.int r_1), .val (.int r_2), .val (.int r_3), .val (.ref y_4), .val (.ref y_9), .val (.ref y_14), .val (.ref y_39), .val (.ref b44), .val (.int (0 : Int32))] [(.int ((p0 &&& (255 : Int32)).toUInt32.toUInt16.toUInt32.toInt32)), (.int (0 : Int32)), (.ref b44)]) _
    rw [own_i255 (own_m255 p0).1 (own_m255 p0).2]
    show own_Go p e below T44 (mkF m 97 #[.val (.int p0), .val (.int p1), .val (.int p2), .val (.int p3), .val (.int r_1), .val (.int r_2), .val (.int r_3), .val (.ref y_4), .val (.ref y_9), .val (.ref y_14), .val (.ref y_39), .val (.ref b44), .val (.int (0 : Int32))] [(.int (p0 &&& (255 : Int32))), (.int (0 : Int32)), (.ref b44)]) _
    obtain ⟨cl258, Ar258, q258, Sz258, Nn258, Hh258, Gg258⟩ := id V44
    have hin258 : ¬ ((0 : Int32) < 0 ∨ cl258.slots.size ≤ ((0 : Int32)).toNatClampNeg) := inb_of Sz258 ⟨by decide, by decide⟩
    obtain ⟨T259, h259, X259, e259, W259, st259⟩ := stC X44 hx hZ e44 Ar258 (j := (0 : Int32)) hin258 (g := (mkF m 97 #[.val (.int p0), .val (.int p1), .val (.int p2), .val (.int p3), .val (.int r_1), .val (.int r_2), .val (.int r_3), .val (.ref y_4), .val (.ref y_9), .val (.ref y_14), .val (.ref y_39), .val (.ref b44), .val (.int (0 : Int32))] [(.int (p0 &&& (255 : Int32))), (.int (0 : Int32)), (.ref b44)])) rfl rfl (hb hby at_97)
    have V259 : Arv Z h259 b44 k44 .char (11 : Int32) [(.int (nar .char (p0 &&& (255 : Int32)))), (.int (0 : Int32)), (.int (0 : Int32)), (.int (0 : Int32)), (.int (0 : Int32)), (.int (0 : Int32)), (.int (0 : Int32)), (.int (0 : Int32)), (.int (0 : Int32)), (.int (0 : Int32)), (.int (0 : Int32))] (.int (0 : Int32)) := Arv.set Ar258 q258 Sz258 Nn258 Hh258 Gg258 (fits_nar_char _) W259 0 rfl (Nat.le_of_ble_eq_true rfl)
    rw [own_nar (own_w255 p0)] at V259
    have Sa260 : Safe Z own_EL T39.vm h44 b44 := (Safe.arv hZ.alike V44 (by decide))
    have CH260 := CH45.wr W259 Sa260
    have CR260 := CHr.trans CR45 (CHr.wr W259 Sa260 CH45)
    have K261 : Keep h0 h259 [] := K46.wr W259 (Or.inr B44)
    have N259 := Fr.snoc X259 N39 G44
    refine own_st st259 ?_
    show own_Go p e below T259 (mkF m 98 #[.val (.int p0), .val (.int p1), .val (.int p2), .val (.int p3), .val (.int r_1), .val (.int r_2), .val (.int r_3), .val (.ref y_4), .val (.ref y_9), .val (.ref y_14), .val (.ref y_39), .val (.ref b44), .val (.int (0 : Int32))] []) _
    refine own_st (fun t_ k_ => XS.iload X259.here hx rfl (hb hby at_98) rfl (XS.iconst X259.here hx rfl (hb hby at_100) (XS.iadd X259.here hx rfl (hb hby at_101) rfl (XS.istore X259.here hx rfl (hb hby at_102) rfl (l' := #[.val (.int p0), .val (.int p1), .val (.int p2), .val (.int p3), .val (.int r_1), .val (.int r_2), .val (.int r_3), .val (.ref y_4), .val (.ref y_9), .val (.ref y_14), .val (.ref y_39), .val (.ref b44), .val (.int (1 : Int32))]) rfl (XS.iload X259.here hx rfl (hb hby at_104) rfl (XS.iconst X259.here hx rfl (hb hby at_106) (XS.icmpNo X259.here hx rfl (hb hby at_107) rfl (tlt (show (1 : Int32) < r_1 from (by rw [hA0.1] <;> decide))).2.2.2 (XS.aload X259.here hx rfl (hb hby at_110) rfl rfl (XS.iload X259.here hx rfl (hb hby at_112) rfl (XS.iloadN X259.here hx rfl (hb hby at_114) rfl k_)))))))))) ?_
    show own_Go p e below T259 (mkF m 115 #[.val (.int p0), .val (.int p1), .val (.int p2), .val (.int p3), .val (.int r_1), .val (.int r_2), .val (.int r_3), .val (.ref y_4), .val (.ref y_9), .val (.ref y_14), .val (.ref y_39), .val (.ref b44), .val (.int (1 : Int32))] [(.int p0), (.int (1 : Int32)), (.ref b44)]) _
    refine own_st (fun t_ k_ => XS.bipush X259.here hx rfl (hb hby at_115) (XS.iushr X259.here hx rfl (hb hby at_117) rfl (XS.sipush X259.here hx rfl (hb hby at_118) (XS.iand X259.here hx rfl (hb hby at_121) rfl (XS.i2c X259.here hx rfl (hb hby at_122) rfl k_))))) ?_
    show own_Go p e below T259 (mkF m 123 #[.val (.int p0), .val (.int p1), .val (.int p2), .val (.int p3), .val (.int r_1), .val (.int r_2), .val (.int r_3), .val (.ref y_4), .val (.ref y_9), .val (.ref y_14), .val (.ref y_39), .val (.ref b44), .val (.int (1 : Int32))] [(.int ((((p0.toUInt32 >>> ((8 : Int32) &&& 31).toUInt32).toInt32) &&& (255 : Int32)).toUInt32.toUInt16.toUInt32.toInt32)), (.int (1 : Int32)), (.ref b44)]) _
    rw [own_iu8 p0, own_i255 (own_m255 (own_hi p0)).1 (own_m255 (own_hi p0)).2]
    show own_Go p e below T259 (mkF m 123 #[.val (.int p0), .val (.int p1), .val (.int p2), .val (.int p3), .val (.int r_1), .val (.int r_2), .val (.int r_3), .val (.ref y_4), .val (.ref y_9), .val (.ref y_14), .val (.ref y_39), .val (.ref b44), .val (.int (1 : Int32))] [(.int (own_hi p0 &&& (255 : Int32))), (.int (1 : Int32)), (.ref b44)]) _
    obtain ⟨cl262, Ar262, q262, Sz262, Nn262, Hh262, Gg262⟩ := id V259
    have hin262 : ¬ ((1 : Int32) < 0 ∨ cl262.slots.size ≤ ((1 : Int32)).toNatClampNeg) := inb_of Sz262 ⟨by decide, by decide⟩
    obtain ⟨T263, h263, X263, e263, W263, st263⟩ := stC X259 hx hZ e259 Ar262 (j := (1 : Int32)) hin262 (g := (mkF m 123 #[.val (.int p0), .val (.int p1), .val (.int p2), .val (.int p3), .val (.int r_1), .val (.int r_2), .val (.int r_3), .val (.ref y_4), .val (.ref y_9), .val (.ref y_14), .val (.ref y_39), .val (.ref b44), .val (.int (1 : Int32))] [(.int (own_hi p0 &&& (255 : Int32))), (.int (1 : Int32)), (.ref b44)])) rfl rfl (hb hby at_123)
    have V263 : Arv Z h263 b44 k44 .char (11 : Int32) [(.int (p0 &&& (255 : Int32))), (.int (nar .char (own_hi p0 &&& (255 : Int32)))), (.int (0 : Int32)), (.int (0 : Int32)), (.int (0 : Int32)), (.int (0 : Int32)), (.int (0 : Int32)), (.int (0 : Int32)), (.int (0 : Int32)), (.int (0 : Int32)), (.int (0 : Int32))] (.int (0 : Int32)) := Arv.set Ar262 q262 Sz262 Nn262 Hh262 Gg262 (fits_nar_char _) W263 1 rfl (Nat.le_of_ble_eq_true rfl)
    rw [own_nar (own_w255 (own_hi p0))] at V263
    have Sa264 : Safe Z own_EL T39.vm h259 b44 := (Safe.arv hZ.alike V259 (by decide))
    have CH264 := CH260.wr W263 Sa264
    have CR264 := CHr.trans CR260 (CHr.wr W263 Sa264 CH260)
    have K265 : Keep h0 h263 [] := K261.wr W263 (Or.inr B44)
    have N263 := Fr.snoc X263 N259 G44
    refine own_st st263 ?_
    show own_Go p e below T263 (mkF m 124 #[.val (.int p0), .val (.int p1), .val (.int p2), .val (.int p3), .val (.int r_1), .val (.int r_2), .val (.int r_3), .val (.ref y_4), .val (.ref y_9), .val (.ref y_14), .val (.ref y_39), .val (.ref b44), .val (.int (1 : Int32))] []) _
    refine own_st (fun t_ k_ => XS.iload X263.here hx rfl (hb hby at_124) rfl (XS.iconst X263.here hx rfl (hb hby at_126) (XS.iadd X263.here hx rfl (hb hby at_127) rfl (XS.istore X263.here hx rfl (hb hby at_128) rfl (l' := #[.val (.int p0), .val (.int p1), .val (.int p2), .val (.int p3), .val (.int r_1), .val (.int r_2), .val (.int r_3), .val (.ref y_4), .val (.ref y_9), .val (.ref y_14), .val (.ref y_39), .val (.ref b44), .val (.int (2 : Int32))]) rfl (XS.aload X263.here hx rfl (hb hby at_130) rfl rfl (XS.iload X263.here hx rfl (hb hby at_132) rfl (XS.bipush X263.here hx rfl (hb hby at_134) k_))))))) ?_
    show own_Go p e below T263 (mkF m 136 #[.val (.int p0), .val (.int p1), .val (.int p2), .val (.int p3), .val (.int r_1), .val (.int r_2), .val (.int r_3), .val (.ref y_4), .val (.ref y_9), .val (.ref y_14), .val (.ref y_39), .val (.ref b44), .val (.int (2 : Int32))] [(.int (32 : Int32)), (.int (2 : Int32)), (.ref b44)]) _
    obtain ⟨cl266, Ar266, q266, Sz266, Nn266, Hh266, Gg266⟩ := id V263
    have hin266 : ¬ ((2 : Int32) < 0 ∨ cl266.slots.size ≤ ((2 : Int32)).toNatClampNeg) := inb_of Sz266 ⟨by decide, by decide⟩
    obtain ⟨T267, h267, X267, e267, W267, st267⟩ := stC X263 hx hZ e263 Ar266 (j := (2 : Int32)) hin266 (g := (mkF m 136 #[.val (.int p0), .val (.int p1), .val (.int p2), .val (.int p3), .val (.int r_1), .val (.int r_2), .val (.int r_3), .val (.ref y_4), .val (.ref y_9), .val (.ref y_14), .val (.ref y_39), .val (.ref b44), .val (.int (2 : Int32))] [(.int (32 : Int32)), (.int (2 : Int32)), (.ref b44)])) rfl rfl (hb hby at_136)
    have V267 : Arv Z h267 b44 k44 .char (11 : Int32) [(.int (p0 &&& (255 : Int32))), (.int (own_hi p0 &&& (255 : Int32))), (.int (nar .char (32 : Int32))), (.int (0 : Int32)), (.int (0 : Int32)), (.int (0 : Int32)), (.int (0 : Int32)), (.int (0 : Int32)), (.int (0 : Int32)), (.int (0 : Int32)), (.int (0 : Int32))] (.int (0 : Int32)) := Arv.set Ar266 q266 Sz266 Nn266 Hh266 Gg266 (fits_nar_char _) W267 2 rfl (Nat.le_of_ble_eq_true rfl)
    rw [(show nar .char (32 : Int32) = (32 : Int32) from rfl)] at V267
    have Sa268 : Safe Z own_EL T39.vm h263 b44 := (Safe.arv hZ.alike V263 (by decide))
    have CH268 := CH264.wr W267 Sa268
    have CR268 := CHr.trans CR264 (CHr.wr W267 Sa268 CH264)
    have K269 : Keep h0 h267 [] := K265.wr W267 (Or.inr B44)
    have N267 := Fr.snoc X267 N263 G44
    refine own_st st267 ?_
    show own_Go p e below T267 (mkF m 137 #[.val (.int p0), .val (.int p1), .val (.int p2), .val (.int p3), .val (.int r_1), .val (.int r_2), .val (.int r_3), .val (.ref y_4), .val (.ref y_9), .val (.ref y_14), .val (.ref y_39), .val (.ref b44), .val (.int (2 : Int32))] []) _
    refine own_st (fun t_ k_ => XS.iload X267.here hx rfl (hb hby at_137) rfl (XS.iconst X267.here hx rfl (hb hby at_139) (XS.iadd X267.here hx rfl (hb hby at_140) rfl (XS.istore X267.here hx rfl (hb hby at_141) rfl (l' := #[.val (.int p0), .val (.int p1), .val (.int p2), .val (.int p3), .val (.int r_1), .val (.int r_2), .val (.int r_3), .val (.ref y_4), .val (.ref y_9), .val (.ref y_14), .val (.ref y_39), .val (.ref b44), .val (.int (3 : Int32))]) rfl (XS.aload X267.here hx rfl (hb hby at_143) rfl rfl (XS.iload X267.here hx rfl (hb hby at_145) rfl (XS.bipush X267.here hx rfl (hb hby at_147) k_))))))) ?_
    show own_Go p e below T267 (mkF m 149 #[.val (.int p0), .val (.int p1), .val (.int p2), .val (.int p3), .val (.int r_1), .val (.int r_2), .val (.int r_3), .val (.ref y_4), .val (.ref y_9), .val (.ref y_14), .val (.ref y_39), .val (.ref b44), .val (.int (3 : Int32))] [(.int (91 : Int32)), (.int (3 : Int32)), (.ref b44)]) _
    obtain ⟨cl270, Ar270, q270, Sz270, Nn270, Hh270, Gg270⟩ := id V267
    have hin270 : ¬ ((3 : Int32) < 0 ∨ cl270.slots.size ≤ ((3 : Int32)).toNatClampNeg) := inb_of Sz270 ⟨by decide, by decide⟩
    obtain ⟨T271, h271, X271, e271, W271, st271⟩ := stC X267 hx hZ e267 Ar270 (j := (3 : Int32)) hin270 (g := (mkF m 149 #[.val (.int p0), .val (.int p1), .val (.int p2), .val (.int p3), .val (.int r_1), .val (.int r_2), .val (.int r_3), .val (.ref y_4), .val (.ref y_9), .val (.ref y_14), .val (.ref y_39), .val (.ref b44), .val (.int (3 : Int32))] [(.int (91 : Int32)), (.int (3 : Int32)), (.ref b44)])) rfl rfl (hb hby at_149)
    have V271 : Arv Z h271 b44 k44 .char (11 : Int32) [(.int (p0 &&& (255 : Int32))), (.int (own_hi p0 &&& (255 : Int32))), (.int (32 : Int32)), (.int (nar .char (91 : Int32))), (.int (0 : Int32)), (.int (0 : Int32)), (.int (0 : Int32)), (.int (0 : Int32)), (.int (0 : Int32)), (.int (0 : Int32)), (.int (0 : Int32))] (.int (0 : Int32)) := Arv.set Ar270 q270 Sz270 Nn270 Hh270 Gg270 (fits_nar_char _) W271 3 rfl (Nat.le_of_ble_eq_true rfl)
    rw [(show nar .char (91 : Int32) = (91 : Int32) from rfl)] at V271
    have Sa272 : Safe Z own_EL T39.vm h267 b44 := (Safe.arv hZ.alike V267 (by decide))
    have CH272 := CH268.wr W271 Sa272
    have CR272 := CHr.trans CR268 (CHr.wr W271 Sa272 CH268)
    have K273 : Keep h0 h271 [] := K269.wr W271 (Or.inr B44)
    have N271 := Fr.snoc X271 N267 G44
    refine own_st st271 ?_
    show own_Go p e below T271 (mkF m 150 #[.val (.int p0), .val (.int p1), .val (.int p2), .val (.int p3), .val (.int r_1), .val (.int r_2), .val (.int r_3), .val (.ref y_4), .val (.ref y_9), .val (.ref y_14), .val (.ref y_39), .val (.ref b44), .val (.int (3 : Int32))] []) _
    refine own_st (fun t_ k_ => XS.iload X271.here hx rfl (hb hby at_150) rfl (XS.iconst X271.here hx rfl (hb hby at_152) (XS.iadd X271.here hx rfl (hb hby at_153) rfl (XS.istore X271.here hx rfl (hb hby at_154) rfl (l' := #[.val (.int p0), .val (.int p1), .val (.int p2), .val (.int p3), .val (.int r_1), .val (.int r_2), .val (.int r_3), .val (.ref y_4), .val (.ref y_9), .val (.ref y_14), .val (.ref y_39), .val (.ref b44), .val (.int (4 : Int32))]) rfl (XS.iload X271.here hx rfl (hb hby at_156) rfl k_))))) ?_
    show own_Go p e below T271 (mkF m 158 #[.val (.int p0), .val (.int p1), .val (.int p2), .val (.int p3), .val (.int r_1), .val (.int r_2), .val (.int r_3), .val (.ref y_4), .val (.ref y_9), .val (.ref y_14), .val (.ref y_39), .val (.ref b44), .val (.int (4 : Int32))] [(.int r_2)]) _
    rcases hM1 with hA1 | hA1 | hA1
    · skip
      refine own_st (fun t_ k_ => XS.ifYes X271.here hx rfl (pc0 := 158) (pc' := 178) rfl (hb hby at_158) rfl ((if0 _ _).trans (flt (show ¬ ((0 : Int32) < r_2) from (by rw [hA1.1] <;> decide))).2.2.2) (by decide) (by decide) (XS.iload X271.here hx rfl (hb hby at_178) rfl (XS.iconst X271.here hx rfl (hb hby at_180) (XS.icmpYes X271.here hx rfl (pc0 := 181) (pc' := 204) rfl (hb hby at_181) rfl (flt (show ¬ ((1 : Int32) < r_2) from (by rw [hA1.1] <;> decide))).2.2.2 (by decide) (by decide) (XS.aload X271.here hx rfl (hb hby at_204) rfl rfl (XS.iload X271.here hx rfl (hb hby at_206) rfl (XS.bipush X271.here hx rfl (hb hby at_208) k_))))))) ?_
      show own_Go p e below T271 (mkF m 210 #[.val (.int p0), .val (.int p1), .val (.int p2), .val (.int p3), .val (.int r_1), .val (.int r_2), .val (.int r_3), .val (.ref y_4), .val (.ref y_9), .val (.ref y_14), .val (.ref y_39), .val (.ref b44), .val (.int (4 : Int32))] [(.int (93 : Int32)), (.int (4 : Int32)), (.ref b44)]) _
      obtain ⟨cl274, Ar274, q274, Sz274, Nn274, Hh274, Gg274⟩ := id V271
      have hin274 : ¬ ((4 : Int32) < 0 ∨ cl274.slots.size ≤ ((4 : Int32)).toNatClampNeg) := inb_of Sz274 ⟨by decide, by decide⟩
      obtain ⟨T275, h275, X275, e275, W275, st275⟩ := stC X271 hx hZ e271 Ar274 (j := (4 : Int32)) hin274 (g := (mkF m 210 #[.val (.int p0), .val (.int p1), .val (.int p2), .val (.int p3), .val (.int r_1), .val (.int r_2), .val (.int r_3), .val (.ref y_4), .val (.ref y_9), .val (.ref y_14), .val (.ref y_39), .val (.ref b44), .val (.int (4 : Int32))] [(.int (93 : Int32)), (.int (4 : Int32)), (.ref b44)])) rfl rfl (hb hby at_210)
      have V275 : Arv Z h275 b44 k44 .char (11 : Int32) [(.int (p0 &&& (255 : Int32))), (.int (own_hi p0 &&& (255 : Int32))), (.int (32 : Int32)), (.int (91 : Int32)), (.int (nar .char (93 : Int32))), (.int (0 : Int32)), (.int (0 : Int32)), (.int (0 : Int32)), (.int (0 : Int32)), (.int (0 : Int32)), (.int (0 : Int32))] (.int (0 : Int32)) := Arv.set Ar274 q274 Sz274 Nn274 Hh274 Gg274 (fits_nar_char _) W275 4 rfl (Nat.le_of_ble_eq_true rfl)
      rw [(show nar .char (93 : Int32) = (93 : Int32) from rfl)] at V275
      have Sa276 : Safe Z own_EL T39.vm h271 b44 := (Safe.arv hZ.alike V271 (by decide))
      have CH276 := CH272.wr W275 Sa276
      have CR276 := CHr.trans CR272 (CHr.wr W275 Sa276 CH272)
      have K277 : Keep h0 h275 [] := K273.wr W275 (Or.inr B44)
      have N275 := Fr.snoc X275 N271 G44
      refine own_st st275 ?_
      show own_Go p e below T275 (mkF m 211 #[.val (.int p0), .val (.int p1), .val (.int p2), .val (.int p3), .val (.int r_1), .val (.int r_2), .val (.int r_3), .val (.ref y_4), .val (.ref y_9), .val (.ref y_14), .val (.ref y_39), .val (.ref b44), .val (.int (4 : Int32))] []) _
      refine own_st (fun t_ k_ => XS.iload X275.here hx rfl (hb hby at_211) rfl (XS.iconst X275.here hx rfl (hb hby at_213) (XS.iadd X275.here hx rfl (hb hby at_214) rfl (XS.istore X275.here hx rfl (hb hby at_215) rfl (l' := #[.val (.int p0), .val (.int p1), .val (.int p2), .val (.int p3), .val (.int r_1), .val (.int r_2), .val (.int r_3), .val (.ref y_4), .val (.ref y_9), .val (.ref y_14), .val (.ref y_39), .val (.ref b44), .val (.int (5 : Int32))]) rfl (XS.aload X275.here hx rfl (hb hby at_217) rfl rfl (XS.iload X275.here hx rfl (hb hby at_219) rfl (XS.bipush X275.here hx rfl (hb hby at_221) k_))))))) ?_
      show own_Go p e below T275 (mkF m 223 #[.val (.int p0), .val (.int p1), .val (.int p2), .val (.int p3), .val (.int r_1), .val (.int r_2), .val (.int r_3), .val (.ref y_4), .val (.ref y_9), .val (.ref y_14), .val (.ref y_39), .val (.ref b44), .val (.int (5 : Int32))] [(.int (58 : Int32)), (.int (5 : Int32)), (.ref b44)]) _
      obtain ⟨cl278, Ar278, q278, Sz278, Nn278, Hh278, Gg278⟩ := id V275
      have hin278 : ¬ ((5 : Int32) < 0 ∨ cl278.slots.size ≤ ((5 : Int32)).toNatClampNeg) := inb_of Sz278 ⟨by decide, by decide⟩
      obtain ⟨T279, h279, X279, e279, W279, st279⟩ := stC X275 hx hZ e275 Ar278 (j := (5 : Int32)) hin278 (g := (mkF m 223 #[.val (.int p0), .val (.int p1), .val (.int p2), .val (.int p3), .val (.int r_1), .val (.int r_2), .val (.int r_3), .val (.ref y_4), .val (.ref y_9), .val (.ref y_14), .val (.ref y_39), .val (.ref b44), .val (.int (5 : Int32))] [(.int (58 : Int32)), (.int (5 : Int32)), (.ref b44)])) rfl rfl (hb hby at_223)
      have V279 : Arv Z h279 b44 k44 .char (11 : Int32) [(.int (p0 &&& (255 : Int32))), (.int (own_hi p0 &&& (255 : Int32))), (.int (32 : Int32)), (.int (91 : Int32)), (.int (93 : Int32)), (.int (nar .char (58 : Int32))), (.int (0 : Int32)), (.int (0 : Int32)), (.int (0 : Int32)), (.int (0 : Int32)), (.int (0 : Int32))] (.int (0 : Int32)) := Arv.set Ar278 q278 Sz278 Nn278 Hh278 Gg278 (fits_nar_char _) W279 5 rfl (Nat.le_of_ble_eq_true rfl)
      rw [(show nar .char (58 : Int32) = (58 : Int32) from rfl)] at V279
      have Sa280 : Safe Z own_EL T39.vm h275 b44 := (Safe.arv hZ.alike V275 (by decide))
      have CH280 := CH276.wr W279 Sa280
      have CR280 := CHr.trans CR276 (CHr.wr W279 Sa280 CH276)
      have K281 : Keep h0 h279 [] := K277.wr W279 (Or.inr B44)
      have N279 := Fr.snoc X279 N275 G44
      refine own_st st279 ?_
      show own_Go p e below T279 (mkF m 224 #[.val (.int p0), .val (.int p1), .val (.int p2), .val (.int p3), .val (.int r_1), .val (.int r_2), .val (.int r_3), .val (.ref y_4), .val (.ref y_9), .val (.ref y_14), .val (.ref y_39), .val (.ref b44), .val (.int (5 : Int32))] []) _
      refine own_st (fun t_ k_ => XS.iload X279.here hx rfl (hb hby at_224) rfl (XS.iconst X279.here hx rfl (hb hby at_226) (XS.iadd X279.here hx rfl (hb hby at_227) rfl (XS.istore X279.here hx rfl (hb hby at_228) rfl (l' := #[.val (.int p0), .val (.int p1), .val (.int p2), .val (.int p3), .val (.int r_1), .val (.int r_2), .val (.int r_3), .val (.ref y_4), .val (.ref y_9), .val (.ref y_14), .val (.ref y_39), .val (.ref b44), .val (.int (6 : Int32))]) rfl (XS.aload X279.here hx rfl (hb hby at_230) rfl rfl (XS.iload X279.here hx rfl (hb hby at_232) rfl (XS.bipush X279.here hx rfl (hb hby at_234) k_))))))) ?_
      show own_Go p e below T279 (mkF m 236 #[.val (.int p0), .val (.int p1), .val (.int p2), .val (.int p3), .val (.int r_1), .val (.int r_2), .val (.int r_3), .val (.ref y_4), .val (.ref y_9), .val (.ref y_14), .val (.ref y_39), .val (.ref b44), .val (.int (6 : Int32))] [(.int (32 : Int32)), (.int (6 : Int32)), (.ref b44)]) _
      obtain ⟨cl282, Ar282, q282, Sz282, Nn282, Hh282, Gg282⟩ := id V279
      have hin282 : ¬ ((6 : Int32) < 0 ∨ cl282.slots.size ≤ ((6 : Int32)).toNatClampNeg) := inb_of Sz282 ⟨by decide, by decide⟩
      obtain ⟨T283, h283, X283, e283, W283, st283⟩ := stC X279 hx hZ e279 Ar282 (j := (6 : Int32)) hin282 (g := (mkF m 236 #[.val (.int p0), .val (.int p1), .val (.int p2), .val (.int p3), .val (.int r_1), .val (.int r_2), .val (.int r_3), .val (.ref y_4), .val (.ref y_9), .val (.ref y_14), .val (.ref y_39), .val (.ref b44), .val (.int (6 : Int32))] [(.int (32 : Int32)), (.int (6 : Int32)), (.ref b44)])) rfl rfl (hb hby at_236)
      have V283 : Arv Z h283 b44 k44 .char (11 : Int32) [(.int (p0 &&& (255 : Int32))), (.int (own_hi p0 &&& (255 : Int32))), (.int (32 : Int32)), (.int (91 : Int32)), (.int (93 : Int32)), (.int (58 : Int32)), (.int (nar .char (32 : Int32))), (.int (0 : Int32)), (.int (0 : Int32)), (.int (0 : Int32)), (.int (0 : Int32))] (.int (0 : Int32)) := Arv.set Ar282 q282 Sz282 Nn282 Hh282 Gg282 (fits_nar_char _) W283 6 rfl (Nat.le_of_ble_eq_true rfl)
      rw [(show nar .char (32 : Int32) = (32 : Int32) from rfl)] at V283
      have Sa284 : Safe Z own_EL T39.vm h279 b44 := (Safe.arv hZ.alike V279 (by decide))
      have CH284 := CH280.wr W283 Sa284
      have CR284 := CHr.trans CR280 (CHr.wr W283 Sa284 CH280)
      have K285 : Keep h0 h283 [] := K281.wr W283 (Or.inr B44)
      have N283 := Fr.snoc X283 N279 G44
      refine own_st st283 ?_
      show own_Go p e below T283 (mkF m 237 #[.val (.int p0), .val (.int p1), .val (.int p2), .val (.int p3), .val (.int r_1), .val (.int r_2), .val (.int r_3), .val (.ref y_4), .val (.ref y_9), .val (.ref y_14), .val (.ref y_39), .val (.ref b44), .val (.int (6 : Int32))] []) _
      refine own_st (fun t_ k_ => XS.iload X283.here hx rfl (hb hby at_237) rfl (XS.iconst X283.here hx rfl (hb hby at_239) (XS.iadd X283.here hx rfl (hb hby at_240) rfl (XS.istore X283.here hx rfl (hb hby at_241) rfl (l' := #[.val (.int p0), .val (.int p1), .val (.int p2), .val (.int p3), .val (.int r_1), .val (.int r_2), .val (.int r_3), .val (.ref y_4), .val (.ref y_9), .val (.ref y_14), .val (.ref y_39), .val (.ref b44), .val (.int (7 : Int32))]) rfl (XS.iload X283.here hx rfl (hb hby at_243) rfl k_))))) ?_
      show own_Go p e below T283 (mkF m 245 #[.val (.int p0), .val (.int p1), .val (.int p2), .val (.int p3), .val (.int r_1), .val (.int r_2), .val (.int r_3), .val (.ref y_4), .val (.ref y_9), .val (.ref y_14), .val (.ref y_39), .val (.ref b44), .val (.int (7 : Int32))] [(.int r_3)]) _
      rcases hM2 with hA2 | hA2 | hA2
      · skip
        refine own_st (fun t_ k_ => XS.ifYes X283.here hx rfl (pc0 := 245) (pc' := 265) rfl (hb hby at_245) rfl ((if0 _ _).trans (flt (show ¬ ((0 : Int32) < r_3) from (by rw [hA2.1] <;> decide))).2.2.2) (by decide) (by decide) (XS.iload X283.here hx rfl (hb hby at_265) rfl (XS.iconst X283.here hx rfl (hb hby at_267) (XS.icmpYes X283.here hx rfl (pc0 := 268) (pc' := 291) rfl (hb hby at_268) rfl (flt (show ¬ ((1 : Int32) < r_3) from (by rw [hA2.1] <;> decide))).2.2.2 (by decide) (by decide) k_)))) ?_
        show own_Go p e below T283 (mkF m 291 #[.val (.int p0), .val (.int p1), .val (.int p2), .val (.int p3), .val (.int r_1), .val (.int r_2), .val (.int r_3), .val (.ref y_4), .val (.ref y_9), .val (.ref y_14), .val (.ref y_39), .val (.ref b44), .val (.int (7 : Int32))] []) _
        exact tail47 _ _ _ (7 : Int32) [(.int (0 : Int32)), (.int (0 : Int32)), (.int (0 : Int32)), (.int (0 : Int32))] X283 e283 N283 ((((((((Keep.refl h44 [b44]).wr W259 (Or.inl (List.mem_of_getElem? (i := 0) rfl))).wr W263 (Or.inl (List.mem_of_getElem? (i := 0) rfl))).wr W267 (Or.inl (List.mem_of_getElem? (i := 0) rfl))).wr W271 (Or.inl (List.mem_of_getElem? (i := 0) rfl))).wr W275 (Or.inl (List.mem_of_getElem? (i := 0) rfl))).wr W279 (Or.inl (List.mem_of_getElem? (i := 0) rfl))).wr W283 (Or.inl (List.mem_of_getElem? (i := 0) rfl))) (by rw [hA0.2, hA1.2, hA2.2]; exact V283) (by rw [hA0.2, hA1.2, hA2.2]; rfl)
      · skip
        refine own_st (fun t_ k_ => XS.ifNo X283.here hx rfl (hb hby at_245) rfl ((if0 _ _).trans (tlt (show (0 : Int32) < r_3 from (by rw [hA2.1] <;> decide))).2.2.2) (XS.aload X283.here hx rfl (hb hby at_248) rfl rfl (XS.iload X283.here hx rfl (hb hby at_250) rfl (XS.iloadN X283.here hx rfl (hb hby at_252) rfl (XS.sipush X283.here hx rfl (hb hby at_253) (XS.iand X283.here hx rfl (hb hby at_256) rfl (XS.i2c X283.here hx rfl (hb hby at_257) rfl k_))))))) ?_
        show own_Go p e below T283 (mkF m 258 #[.val (.int p0), .val (.int p1), .val (.int p2), .val (.int p3), .val (.int r_1), .val (.int r_2), .val (.int r_3), .val (.ref y_4), .val (.ref y_9), .val (.ref y_14), .val (.ref y_39), .val (.ref b44), .val (.int (7 : Int32))] [(.int ((p2 &&& (255 : Int32)).toUInt32.toUInt16.toUInt32.toInt32)), (.int (7 : Int32)), (.ref b44)]) _
        rw [own_i255 (own_m255 p2).1 (own_m255 p2).2]
        show own_Go p e below T283 (mkF m 258 #[.val (.int p0), .val (.int p1), .val (.int p2), .val (.int p3), .val (.int r_1), .val (.int r_2), .val (.int r_3), .val (.ref y_4), .val (.ref y_9), .val (.ref y_14), .val (.ref y_39), .val (.ref b44), .val (.int (7 : Int32))] [(.int (p2 &&& (255 : Int32))), (.int (7 : Int32)), (.ref b44)]) _
        obtain ⟨cl286, Ar286, q286, Sz286, Nn286, Hh286, Gg286⟩ := id V283
        have hin286 : ¬ ((7 : Int32) < 0 ∨ cl286.slots.size ≤ ((7 : Int32)).toNatClampNeg) := inb_of Sz286 ⟨by decide, by decide⟩
        obtain ⟨T287, h287, X287, e287, W287, st287⟩ := stC X283 hx hZ e283 Ar286 (j := (7 : Int32)) hin286 (g := (mkF m 258 #[.val (.int p0), .val (.int p1), .val (.int p2), .val (.int p3), .val (.int r_1), .val (.int r_2), .val (.int r_3), .val (.ref y_4), .val (.ref y_9), .val (.ref y_14), .val (.ref y_39), .val (.ref b44), .val (.int (7 : Int32))] [(.int (p2 &&& (255 : Int32))), (.int (7 : Int32)), (.ref b44)])) rfl rfl (hb hby at_258)
        have V287 : Arv Z h287 b44 k44 .char (11 : Int32) [(.int (p0 &&& (255 : Int32))), (.int (own_hi p0 &&& (255 : Int32))), (.int (32 : Int32)), (.int (91 : Int32)), (.int (93 : Int32)), (.int (58 : Int32)), (.int (32 : Int32)), (.int (nar .char (p2 &&& (255 : Int32)))), (.int (0 : Int32)), (.int (0 : Int32)), (.int (0 : Int32))] (.int (0 : Int32)) := Arv.set Ar286 q286 Sz286 Nn286 Hh286 Gg286 (fits_nar_char _) W287 7 rfl (Nat.le_of_ble_eq_true rfl)
        rw [own_nar (own_w255 p2)] at V287
        have Sa288 : Safe Z own_EL T39.vm h283 b44 := (Safe.arv hZ.alike V283 (by decide))
        have CH288 := CH284.wr W287 Sa288
        have CR288 := CHr.trans CR284 (CHr.wr W287 Sa288 CH284)
        have K289 : Keep h0 h287 [] := K285.wr W287 (Or.inr B44)
        have N287 := Fr.snoc X287 N283 G44
        refine own_st st287 ?_
        show own_Go p e below T287 (mkF m 259 #[.val (.int p0), .val (.int p1), .val (.int p2), .val (.int p3), .val (.int r_1), .val (.int r_2), .val (.int r_3), .val (.ref y_4), .val (.ref y_9), .val (.ref y_14), .val (.ref y_39), .val (.ref b44), .val (.int (7 : Int32))] []) _
        refine own_st (fun t_ k_ => XS.iload X287.here hx rfl (hb hby at_259) rfl (XS.iconst X287.here hx rfl (hb hby at_261) (XS.iadd X287.here hx rfl (hb hby at_262) rfl (XS.istore X287.here hx rfl (hb hby at_263) rfl (l' := #[.val (.int p0), .val (.int p1), .val (.int p2), .val (.int p3), .val (.int r_1), .val (.int r_2), .val (.int r_3), .val (.ref y_4), .val (.ref y_9), .val (.ref y_14), .val (.ref y_39), .val (.ref b44), .val (.int (8 : Int32))]) rfl (XS.iload X287.here hx rfl (hb hby at_265) rfl (XS.iconst X287.here hx rfl (hb hby at_267) (XS.icmpYes X287.here hx rfl (pc0 := 268) (pc' := 291) rfl (hb hby at_268) rfl (flt (show ¬ ((1 : Int32) < r_3) from (by rw [hA2.1] <;> decide))).2.2.2 (by decide) (by decide) k_))))))) ?_
        show own_Go p e below T287 (mkF m 291 #[.val (.int p0), .val (.int p1), .val (.int p2), .val (.int p3), .val (.int r_1), .val (.int r_2), .val (.int r_3), .val (.ref y_4), .val (.ref y_9), .val (.ref y_14), .val (.ref y_39), .val (.ref b44), .val (.int (8 : Int32))] []) _
        exact tail47 _ _ _ (8 : Int32) [(.int (0 : Int32)), (.int (0 : Int32)), (.int (0 : Int32))] X287 e287 N287 (((((((((Keep.refl h44 [b44]).wr W259 (Or.inl (List.mem_of_getElem? (i := 0) rfl))).wr W263 (Or.inl (List.mem_of_getElem? (i := 0) rfl))).wr W267 (Or.inl (List.mem_of_getElem? (i := 0) rfl))).wr W271 (Or.inl (List.mem_of_getElem? (i := 0) rfl))).wr W275 (Or.inl (List.mem_of_getElem? (i := 0) rfl))).wr W279 (Or.inl (List.mem_of_getElem? (i := 0) rfl))).wr W283 (Or.inl (List.mem_of_getElem? (i := 0) rfl))).wr W287 (Or.inl (List.mem_of_getElem? (i := 0) rfl))) (by rw [hA0.2, hA1.2, hA2.2]; exact V287) (by rw [hA0.2, hA1.2, hA2.2]; rfl)
      · skip
        refine own_st (fun t_ k_ => XS.ifNo X283.here hx rfl (hb hby at_245) rfl ((if0 _ _).trans (tlt (show (0 : Int32) < r_3 from (by rw [hA2.1] <;> decide))).2.2.2) (XS.aload X283.here hx rfl (hb hby at_248) rfl rfl (XS.iload X283.here hx rfl (hb hby at_250) rfl (XS.iloadN X283.here hx rfl (hb hby at_252) rfl (XS.sipush X283.here hx rfl (hb hby at_253) (XS.iand X283.here hx rfl (hb hby at_256) rfl (XS.i2c X283.here hx rfl (hb hby at_257) rfl k_))))))) ?_
        show own_Go p e below T283 (mkF m 258 #[.val (.int p0), .val (.int p1), .val (.int p2), .val (.int p3), .val (.int r_1), .val (.int r_2), .val (.int r_3), .val (.ref y_4), .val (.ref y_9), .val (.ref y_14), .val (.ref y_39), .val (.ref b44), .val (.int (7 : Int32))] [(.int ((p2 &&& (255 : Int32)).toUInt32.toUInt16.toUInt32.toInt32)), (.int (7 : Int32)), (.ref b44)]) _
        rw [own_i255 (own_m255 p2).1 (own_m255 p2).2]
        show own_Go p e below T283 (mkF m 258 #[.val (.int p0), .val (.int p1), .val (.int p2), .val (.int p3), .val (.int r_1), .val (.int r_2), .val (.int r_3), .val (.ref y_4), .val (.ref y_9), .val (.ref y_14), .val (.ref y_39), .val (.ref b44), .val (.int (7 : Int32))] [(.int (p2 &&& (255 : Int32))), (.int (7 : Int32)), (.ref b44)]) _
        obtain ⟨cl290, Ar290, q290, Sz290, Nn290, Hh290, Gg290⟩ := id V283
        have hin290 : ¬ ((7 : Int32) < 0 ∨ cl290.slots.size ≤ ((7 : Int32)).toNatClampNeg) := inb_of Sz290 ⟨by decide, by decide⟩
        obtain ⟨T291, h291, X291, e291, W291, st291⟩ := stC X283 hx hZ e283 Ar290 (j := (7 : Int32)) hin290 (g := (mkF m 258 #[.val (.int p0), .val (.int p1), .val (.int p2), .val (.int p3), .val (.int r_1), .val (.int r_2), .val (.int r_3), .val (.ref y_4), .val (.ref y_9), .val (.ref y_14), .val (.ref y_39), .val (.ref b44), .val (.int (7 : Int32))] [(.int (p2 &&& (255 : Int32))), (.int (7 : Int32)), (.ref b44)])) rfl rfl (hb hby at_258)
        have V291 : Arv Z h291 b44 k44 .char (11 : Int32) [(.int (p0 &&& (255 : Int32))), (.int (own_hi p0 &&& (255 : Int32))), (.int (32 : Int32)), (.int (91 : Int32)), (.int (93 : Int32)), (.int (58 : Int32)), (.int (32 : Int32)), (.int (nar .char (p2 &&& (255 : Int32)))), (.int (0 : Int32)), (.int (0 : Int32)), (.int (0 : Int32))] (.int (0 : Int32)) := Arv.set Ar290 q290 Sz290 Nn290 Hh290 Gg290 (fits_nar_char _) W291 7 rfl (Nat.le_of_ble_eq_true rfl)
        rw [own_nar (own_w255 p2)] at V291
        have Sa292 : Safe Z own_EL T39.vm h283 b44 := (Safe.arv hZ.alike V283 (by decide))
        have CH292 := CH284.wr W291 Sa292
        have CR292 := CHr.trans CR284 (CHr.wr W291 Sa292 CH284)
        have K293 : Keep h0 h291 [] := K285.wr W291 (Or.inr B44)
        have N291 := Fr.snoc X291 N283 G44
        refine own_st st291 ?_
        show own_Go p e below T291 (mkF m 259 #[.val (.int p0), .val (.int p1), .val (.int p2), .val (.int p3), .val (.int r_1), .val (.int r_2), .val (.int r_3), .val (.ref y_4), .val (.ref y_9), .val (.ref y_14), .val (.ref y_39), .val (.ref b44), .val (.int (7 : Int32))] []) _
        refine own_st (fun t_ k_ => XS.iload X291.here hx rfl (hb hby at_259) rfl (XS.iconst X291.here hx rfl (hb hby at_261) (XS.iadd X291.here hx rfl (hb hby at_262) rfl (XS.istore X291.here hx rfl (hb hby at_263) rfl (l' := #[.val (.int p0), .val (.int p1), .val (.int p2), .val (.int p3), .val (.int r_1), .val (.int r_2), .val (.int r_3), .val (.ref y_4), .val (.ref y_9), .val (.ref y_14), .val (.ref y_39), .val (.ref b44), .val (.int (8 : Int32))]) rfl (XS.iload X291.here hx rfl (hb hby at_265) rfl (XS.iconst X291.here hx rfl (hb hby at_267) (XS.icmpNo X291.here hx rfl (hb hby at_268) rfl (tlt (show (1 : Int32) < r_3 from (by rw [hA2.1] <;> decide))).2.2.2 (XS.aload X291.here hx rfl (hb hby at_271) rfl rfl (XS.iload X291.here hx rfl (hb hby at_273) rfl (XS.iloadN X291.here hx rfl (hb hby at_275) rfl k_)))))))))) ?_
        show own_Go p e below T291 (mkF m 276 #[.val (.int p0), .val (.int p1), .val (.int p2), .val (.int p3), .val (.int r_1), .val (.int r_2), .val (.int r_3), .val (.ref y_4), .val (.ref y_9), .val (.ref y_14), .val (.ref y_39), .val (.ref b44), .val (.int (8 : Int32))] [(.int p2), (.int (8 : Int32)), (.ref b44)]) _
        refine own_st (fun t_ k_ => XS.bipush X291.here hx rfl (hb hby at_276) (XS.iushr X291.here hx rfl (hb hby at_278) rfl (XS.sipush X291.here hx rfl (hb hby at_279) (XS.iand X291.here hx rfl (hb hby at_282) rfl (XS.i2c X291.here hx rfl (hb hby at_283) rfl k_))))) ?_
        show own_Go p e below T291 (mkF m 284 #[.val (.int p0), .val (.int p1), .val (.int p2), .val (.int p3), .val (.int r_1), .val (.int r_2), .val (.int r_3), .val (.ref y_4), .val (.ref y_9), .val (.ref y_14), .val (.ref y_39), .val (.ref b44), .val (.int (8 : Int32))] [(.int ((((p2.toUInt32 >>> ((8 : Int32) &&& 31).toUInt32).toInt32) &&& (255 : Int32)).toUInt32.toUInt16.toUInt32.toInt32)), (.int (8 : Int32)), (.ref b44)]) _
        rw [own_iu8 p2, own_i255 (own_m255 (own_hi p2)).1 (own_m255 (own_hi p2)).2]
        show own_Go p e below T291 (mkF m 284 #[.val (.int p0), .val (.int p1), .val (.int p2), .val (.int p3), .val (.int r_1), .val (.int r_2), .val (.int r_3), .val (.ref y_4), .val (.ref y_9), .val (.ref y_14), .val (.ref y_39), .val (.ref b44), .val (.int (8 : Int32))] [(.int (own_hi p2 &&& (255 : Int32))), (.int (8 : Int32)), (.ref b44)]) _
        obtain ⟨cl294, Ar294, q294, Sz294, Nn294, Hh294, Gg294⟩ := id V291
        have hin294 : ¬ ((8 : Int32) < 0 ∨ cl294.slots.size ≤ ((8 : Int32)).toNatClampNeg) := inb_of Sz294 ⟨by decide, by decide⟩
        obtain ⟨T295, h295, X295, e295, W295, st295⟩ := stC X291 hx hZ e291 Ar294 (j := (8 : Int32)) hin294 (g := (mkF m 284 #[.val (.int p0), .val (.int p1), .val (.int p2), .val (.int p3), .val (.int r_1), .val (.int r_2), .val (.int r_3), .val (.ref y_4), .val (.ref y_9), .val (.ref y_14), .val (.ref y_39), .val (.ref b44), .val (.int (8 : Int32))] [(.int (own_hi p2 &&& (255 : Int32))), (.int (8 : Int32)), (.ref b44)])) rfl rfl (hb hby at_284)
        have V295 : Arv Z h295 b44 k44 .char (11 : Int32) [(.int (p0 &&& (255 : Int32))), (.int (own_hi p0 &&& (255 : Int32))), (.int (32 : Int32)), (.int (91 : Int32)), (.int (93 : Int32)), (.int (58 : Int32)), (.int (32 : Int32)), (.int (p2 &&& (255 : Int32))), (.int (nar .char (own_hi p2 &&& (255 : Int32)))), (.int (0 : Int32)), (.int (0 : Int32))] (.int (0 : Int32)) := Arv.set Ar294 q294 Sz294 Nn294 Hh294 Gg294 (fits_nar_char _) W295 8 rfl (Nat.le_of_ble_eq_true rfl)
        rw [own_nar (own_w255 (own_hi p2))] at V295
        have Sa296 : Safe Z own_EL T39.vm h291 b44 := (Safe.arv hZ.alike V291 (by decide))
        have CH296 := CH292.wr W295 Sa296
        have CR296 := CHr.trans CR292 (CHr.wr W295 Sa296 CH292)
        have K297 : Keep h0 h295 [] := K293.wr W295 (Or.inr B44)
        have N295 := Fr.snoc X295 N291 G44
        refine own_st st295 ?_
        show own_Go p e below T295 (mkF m 285 #[.val (.int p0), .val (.int p1), .val (.int p2), .val (.int p3), .val (.int r_1), .val (.int r_2), .val (.int r_3), .val (.ref y_4), .val (.ref y_9), .val (.ref y_14), .val (.ref y_39), .val (.ref b44), .val (.int (8 : Int32))] []) _
        refine own_st (fun t_ k_ => XS.iload X295.here hx rfl (hb hby at_285) rfl (XS.iconst X295.here hx rfl (hb hby at_287) (XS.iadd X295.here hx rfl (hb hby at_288) rfl (XS.istore X295.here hx rfl (hb hby at_289) rfl (l' := #[.val (.int p0), .val (.int p1), .val (.int p2), .val (.int p3), .val (.int r_1), .val (.int r_2), .val (.int r_3), .val (.ref y_4), .val (.ref y_9), .val (.ref y_14), .val (.ref y_39), .val (.ref b44), .val (.int (9 : Int32))]) rfl k_)))) ?_
        show own_Go p e below T295 (mkF m 291 #[.val (.int p0), .val (.int p1), .val (.int p2), .val (.int p3), .val (.int r_1), .val (.int r_2), .val (.int r_3), .val (.ref y_4), .val (.ref y_9), .val (.ref y_14), .val (.ref y_39), .val (.ref b44), .val (.int (9 : Int32))] []) _
        exact tail47 _ _ _ (9 : Int32) [(.int (0 : Int32)), (.int (0 : Int32))] X295 e295 N295 ((((((((((Keep.refl h44 [b44]).wr W259 (Or.inl (List.mem_of_getElem? (i := 0) rfl))).wr W263 (Or.inl (List.mem_of_getElem? (i := 0) rfl))).wr W267 (Or.inl (List.mem_of_getElem? (i := 0) rfl))).wr W271 (Or.inl (List.mem_of_getElem? (i := 0) rfl))).wr W275 (Or.inl (List.mem_of_getElem? (i := 0) rfl))).wr W279 (Or.inl (List.mem_of_getElem? (i := 0) rfl))).wr W283 (Or.inl (List.mem_of_getElem? (i := 0) rfl))).wr W291 (Or.inl (List.mem_of_getElem? (i := 0) rfl))).wr W295 (Or.inl (List.mem_of_getElem? (i := 0) rfl))) (by rw [hA0.2, hA1.2, hA2.2]; exact V295) (by rw [hA0.2, hA1.2, hA2.2]; rfl)
    · skip
      refine own_st (fun t_ k_ => XS.ifNo X271.here hx rfl (hb hby at_158) rfl ((if0 _ _).trans (tlt (show (0 : Int32) < r_2 from (by rw [hA1.1] <;> decide))).2.2.2) (XS.aload X271.here hx rfl (hb hby at_161) rfl rfl (XS.iload X271.here hx rfl (hb hby at_163) rfl (XS.iloadN X271.here hx rfl (hb hby at_165) rfl (XS.sipush X271.here hx rfl (hb hby at_166) (XS.iand X271.here hx rfl (hb hby at_169) rfl (XS.i2c X271.here hx rfl (hb hby at_170) rfl k_))))))) ?_
      show own_Go p e below T271 (mkF m 171 #[.val (.int p0), .val (.int p1), .val (.int p2), .val (.int p3), .val (.int r_1), .val (.int r_2), .val (.int r_3), .val (.ref y_4), .val (.ref y_9), .val (.ref y_14), .val (.ref y_39), .val (.ref b44), .val (.int (4 : Int32))] [(.int ((p1 &&& (255 : Int32)).toUInt32.toUInt16.toUInt32.toInt32)), (.int (4 : Int32)), (.ref b44)]) _
      rw [own_i255 (own_m255 p1).1 (own_m255 p1).2]
      show own_Go p e below T271 (mkF m 171 #[.val (.int p0), .val (.int p1), .val (.int p2), .val (.int p3), .val (.int r_1), .val (.int r_2), .val (.int r_3), .val (.ref y_4), .val (.ref y_9), .val (.ref y_14), .val (.ref y_39), .val (.ref b44), .val (.int (4 : Int32))] [(.int (p1 &&& (255 : Int32))), (.int (4 : Int32)), (.ref b44)]) _
      obtain ⟨cl298, Ar298, q298, Sz298, Nn298, Hh298, Gg298⟩ := id V271
      have hin298 : ¬ ((4 : Int32) < 0 ∨ cl298.slots.size ≤ ((4 : Int32)).toNatClampNeg) := inb_of Sz298 ⟨by decide, by decide⟩
      obtain ⟨T299, h299, X299, e299, W299, st299⟩ := stC X271 hx hZ e271 Ar298 (j := (4 : Int32)) hin298 (g := (mkF m 171 #[.val (.int p0), .val (.int p1), .val (.int p2), .val (.int p3), .val (.int r_1), .val (.int r_2), .val (.int r_3), .val (.ref y_4), .val (.ref y_9), .val (.ref y_14), .val (.ref y_39), .val (.ref b44), .val (.int (4 : Int32))] [(.int (p1 &&& (255 : Int32))), (.int (4 : Int32)), (.ref b44)])) rfl rfl (hb hby at_171)
      have V299 : Arv Z h299 b44 k44 .char (11 : Int32) [(.int (p0 &&& (255 : Int32))), (.int (own_hi p0 &&& (255 : Int32))), (.int (32 : Int32)), (.int (91 : Int32)), (.int (nar .char (p1 &&& (255 : Int32)))), (.int (0 : Int32)), (.int (0 : Int32)), (.int (0 : Int32)), (.int (0 : Int32)), (.int (0 : Int32)), (.int (0 : Int32))] (.int (0 : Int32)) := Arv.set Ar298 q298 Sz298 Nn298 Hh298 Gg298 (fits_nar_char _) W299 4 rfl (Nat.le_of_ble_eq_true rfl)
      rw [own_nar (own_w255 p1)] at V299
      have Sa300 : Safe Z own_EL T39.vm h271 b44 := (Safe.arv hZ.alike V271 (by decide))
      have CH300 := CH272.wr W299 Sa300
      have CR300 := CHr.trans CR272 (CHr.wr W299 Sa300 CH272)
      have K301 : Keep h0 h299 [] := K273.wr W299 (Or.inr B44)
      have N299 := Fr.snoc X299 N271 G44
      refine own_st st299 ?_
      show own_Go p e below T299 (mkF m 172 #[.val (.int p0), .val (.int p1), .val (.int p2), .val (.int p3), .val (.int r_1), .val (.int r_2), .val (.int r_3), .val (.ref y_4), .val (.ref y_9), .val (.ref y_14), .val (.ref y_39), .val (.ref b44), .val (.int (4 : Int32))] []) _
      refine own_st (fun t_ k_ => XS.iload X299.here hx rfl (hb hby at_172) rfl (XS.iconst X299.here hx rfl (hb hby at_174) (XS.iadd X299.here hx rfl (hb hby at_175) rfl (XS.istore X299.here hx rfl (hb hby at_176) rfl (l' := #[.val (.int p0), .val (.int p1), .val (.int p2), .val (.int p3), .val (.int r_1), .val (.int r_2), .val (.int r_3), .val (.ref y_4), .val (.ref y_9), .val (.ref y_14), .val (.ref y_39), .val (.ref b44), .val (.int (5 : Int32))]) rfl (XS.iload X299.here hx rfl (hb hby at_178) rfl (XS.iconst X299.here hx rfl (hb hby at_180) (XS.icmpYes X299.here hx rfl (pc0 := 181) (pc' := 204) rfl (hb hby at_181) rfl (flt (show ¬ ((1 : Int32) < r_2) from (by rw [hA1.1] <;> decide))).2.2.2 (by decide) (by decide) (XS.aload X299.here hx rfl (hb hby at_204) rfl rfl (XS.iload X299.here hx rfl (hb hby at_206) rfl (XS.bipush X299.here hx rfl (hb hby at_208) k_)))))))))) ?_
      show own_Go p e below T299 (mkF m 210 #[.val (.int p0), .val (.int p1), .val (.int p2), .val (.int p3), .val (.int r_1), .val (.int r_2), .val (.int r_3), .val (.ref y_4), .val (.ref y_9), .val (.ref y_14), .val (.ref y_39), .val (.ref b44), .val (.int (5 : Int32))] [(.int (93 : Int32)), (.int (5 : Int32)), (.ref b44)]) _
      obtain ⟨cl302, Ar302, q302, Sz302, Nn302, Hh302, Gg302⟩ := id V299
      have hin302 : ¬ ((5 : Int32) < 0 ∨ cl302.slots.size ≤ ((5 : Int32)).toNatClampNeg) := inb_of Sz302 ⟨by decide, by decide⟩
      obtain ⟨T303, h303, X303, e303, W303, st303⟩ := stC X299 hx hZ e299 Ar302 (j := (5 : Int32)) hin302 (g := (mkF m 210 #[.val (.int p0), .val (.int p1), .val (.int p2), .val (.int p3), .val (.int r_1), .val (.int r_2), .val (.int r_3), .val (.ref y_4), .val (.ref y_9), .val (.ref y_14), .val (.ref y_39), .val (.ref b44), .val (.int (5 : Int32))] [(.int (93 : Int32)), (.int (5 : Int32)), (.ref b44)])) rfl rfl (hb hby at_210)
      have V303 : Arv Z h303 b44 k44 .char (11 : Int32) [(.int (p0 &&& (255 : Int32))), (.int (own_hi p0 &&& (255 : Int32))), (.int (32 : Int32)), (.int (91 : Int32)), (.int (p1 &&& (255 : Int32))), (.int (nar .char (93 : Int32))), (.int (0 : Int32)), (.int (0 : Int32)), (.int (0 : Int32)), (.int (0 : Int32)), (.int (0 : Int32))] (.int (0 : Int32)) := Arv.set Ar302 q302 Sz302 Nn302 Hh302 Gg302 (fits_nar_char _) W303 5 rfl (Nat.le_of_ble_eq_true rfl)
      rw [(show nar .char (93 : Int32) = (93 : Int32) from rfl)] at V303
      have Sa304 : Safe Z own_EL T39.vm h299 b44 := (Safe.arv hZ.alike V299 (by decide))
      have CH304 := CH300.wr W303 Sa304
      have CR304 := CHr.trans CR300 (CHr.wr W303 Sa304 CH300)
      have K305 : Keep h0 h303 [] := K301.wr W303 (Or.inr B44)
      have N303 := Fr.snoc X303 N299 G44
      refine own_st st303 ?_
      show own_Go p e below T303 (mkF m 211 #[.val (.int p0), .val (.int p1), .val (.int p2), .val (.int p3), .val (.int r_1), .val (.int r_2), .val (.int r_3), .val (.ref y_4), .val (.ref y_9), .val (.ref y_14), .val (.ref y_39), .val (.ref b44), .val (.int (5 : Int32))] []) _
      refine own_st (fun t_ k_ => XS.iload X303.here hx rfl (hb hby at_211) rfl (XS.iconst X303.here hx rfl (hb hby at_213) (XS.iadd X303.here hx rfl (hb hby at_214) rfl (XS.istore X303.here hx rfl (hb hby at_215) rfl (l' := #[.val (.int p0), .val (.int p1), .val (.int p2), .val (.int p3), .val (.int r_1), .val (.int r_2), .val (.int r_3), .val (.ref y_4), .val (.ref y_9), .val (.ref y_14), .val (.ref y_39), .val (.ref b44), .val (.int (6 : Int32))]) rfl (XS.aload X303.here hx rfl (hb hby at_217) rfl rfl (XS.iload X303.here hx rfl (hb hby at_219) rfl (XS.bipush X303.here hx rfl (hb hby at_221) k_))))))) ?_
      show own_Go p e below T303 (mkF m 223 #[.val (.int p0), .val (.int p1), .val (.int p2), .val (.int p3), .val (.int r_1), .val (.int r_2), .val (.int r_3), .val (.ref y_4), .val (.ref y_9), .val (.ref y_14), .val (.ref y_39), .val (.ref b44), .val (.int (6 : Int32))] [(.int (58 : Int32)), (.int (6 : Int32)), (.ref b44)]) _
      obtain ⟨cl306, Ar306, q306, Sz306, Nn306, Hh306, Gg306⟩ := id V303
      have hin306 : ¬ ((6 : Int32) < 0 ∨ cl306.slots.size ≤ ((6 : Int32)).toNatClampNeg) := inb_of Sz306 ⟨by decide, by decide⟩
      obtain ⟨T307, h307, X307, e307, W307, st307⟩ := stC X303 hx hZ e303 Ar306 (j := (6 : Int32)) hin306 (g := (mkF m 223 #[.val (.int p0), .val (.int p1), .val (.int p2), .val (.int p3), .val (.int r_1), .val (.int r_2), .val (.int r_3), .val (.ref y_4), .val (.ref y_9), .val (.ref y_14), .val (.ref y_39), .val (.ref b44), .val (.int (6 : Int32))] [(.int (58 : Int32)), (.int (6 : Int32)), (.ref b44)])) rfl rfl (hb hby at_223)
      have V307 : Arv Z h307 b44 k44 .char (11 : Int32) [(.int (p0 &&& (255 : Int32))), (.int (own_hi p0 &&& (255 : Int32))), (.int (32 : Int32)), (.int (91 : Int32)), (.int (p1 &&& (255 : Int32))), (.int (93 : Int32)), (.int (nar .char (58 : Int32))), (.int (0 : Int32)), (.int (0 : Int32)), (.int (0 : Int32)), (.int (0 : Int32))] (.int (0 : Int32)) := Arv.set Ar306 q306 Sz306 Nn306 Hh306 Gg306 (fits_nar_char _) W307 6 rfl (Nat.le_of_ble_eq_true rfl)
      rw [(show nar .char (58 : Int32) = (58 : Int32) from rfl)] at V307
      have Sa308 : Safe Z own_EL T39.vm h303 b44 := (Safe.arv hZ.alike V303 (by decide))
      have CH308 := CH304.wr W307 Sa308
      have CR308 := CHr.trans CR304 (CHr.wr W307 Sa308 CH304)
      have K309 : Keep h0 h307 [] := K305.wr W307 (Or.inr B44)
      have N307 := Fr.snoc X307 N303 G44
      refine own_st st307 ?_
      show own_Go p e below T307 (mkF m 224 #[.val (.int p0), .val (.int p1), .val (.int p2), .val (.int p3), .val (.int r_1), .val (.int r_2), .val (.int r_3), .val (.ref y_4), .val (.ref y_9), .val (.ref y_14), .val (.ref y_39), .val (.ref b44), .val (.int (6 : Int32))] []) _
      refine own_st (fun t_ k_ => XS.iload X307.here hx rfl (hb hby at_224) rfl (XS.iconst X307.here hx rfl (hb hby at_226) (XS.iadd X307.here hx rfl (hb hby at_227) rfl (XS.istore X307.here hx rfl (hb hby at_228) rfl (l' := #[.val (.int p0), .val (.int p1), .val (.int p2), .val (.int p3), .val (.int r_1), .val (.int r_2), .val (.int r_3), .val (.ref y_4), .val (.ref y_9), .val (.ref y_14), .val (.ref y_39), .val (.ref b44), .val (.int (7 : Int32))]) rfl (XS.aload X307.here hx rfl (hb hby at_230) rfl rfl (XS.iload X307.here hx rfl (hb hby at_232) rfl (XS.bipush X307.here hx rfl (hb hby at_234) k_))))))) ?_
      show own_Go p e below T307 (mkF m 236 #[.val (.int p0), .val (.int p1), .val (.int p2), .val (.int p3), .val (.int r_1), .val (.int r_2), .val (.int r_3), .val (.ref y_4), .val (.ref y_9), .val (.ref y_14), .val (.ref y_39), .val (.ref b44), .val (.int (7 : Int32))] [(.int (32 : Int32)), (.int (7 : Int32)), (.ref b44)]) _
      obtain ⟨cl310, Ar310, q310, Sz310, Nn310, Hh310, Gg310⟩ := id V307
      have hin310 : ¬ ((7 : Int32) < 0 ∨ cl310.slots.size ≤ ((7 : Int32)).toNatClampNeg) := inb_of Sz310 ⟨by decide, by decide⟩
      obtain ⟨T311, h311, X311, e311, W311, st311⟩ := stC X307 hx hZ e307 Ar310 (j := (7 : Int32)) hin310 (g := (mkF m 236 #[.val (.int p0), .val (.int p1), .val (.int p2), .val (.int p3), .val (.int r_1), .val (.int r_2), .val (.int r_3), .val (.ref y_4), .val (.ref y_9), .val (.ref y_14), .val (.ref y_39), .val (.ref b44), .val (.int (7 : Int32))] [(.int (32 : Int32)), (.int (7 : Int32)), (.ref b44)])) rfl rfl (hb hby at_236)
      have V311 : Arv Z h311 b44 k44 .char (11 : Int32) [(.int (p0 &&& (255 : Int32))), (.int (own_hi p0 &&& (255 : Int32))), (.int (32 : Int32)), (.int (91 : Int32)), (.int (p1 &&& (255 : Int32))), (.int (93 : Int32)), (.int (58 : Int32)), (.int (nar .char (32 : Int32))), (.int (0 : Int32)), (.int (0 : Int32)), (.int (0 : Int32))] (.int (0 : Int32)) := Arv.set Ar310 q310 Sz310 Nn310 Hh310 Gg310 (fits_nar_char _) W311 7 rfl (Nat.le_of_ble_eq_true rfl)
      rw [(show nar .char (32 : Int32) = (32 : Int32) from rfl)] at V311
      have Sa312 : Safe Z own_EL T39.vm h307 b44 := (Safe.arv hZ.alike V307 (by decide))
      have CH312 := CH308.wr W311 Sa312
      have CR312 := CHr.trans CR308 (CHr.wr W311 Sa312 CH308)
      have K313 : Keep h0 h311 [] := K309.wr W311 (Or.inr B44)
      have N311 := Fr.snoc X311 N307 G44
      refine own_st st311 ?_
      show own_Go p e below T311 (mkF m 237 #[.val (.int p0), .val (.int p1), .val (.int p2), .val (.int p3), .val (.int r_1), .val (.int r_2), .val (.int r_3), .val (.ref y_4), .val (.ref y_9), .val (.ref y_14), .val (.ref y_39), .val (.ref b44), .val (.int (7 : Int32))] []) _
      refine own_st (fun t_ k_ => XS.iload X311.here hx rfl (hb hby at_237) rfl (XS.iconst X311.here hx rfl (hb hby at_239) (XS.iadd X311.here hx rfl (hb hby at_240) rfl (XS.istore X311.here hx rfl (hb hby at_241) rfl (l' := #[.val (.int p0), .val (.int p1), .val (.int p2), .val (.int p3), .val (.int r_1), .val (.int r_2), .val (.int r_3), .val (.ref y_4), .val (.ref y_9), .val (.ref y_14), .val (.ref y_39), .val (.ref b44), .val (.int (8 : Int32))]) rfl (XS.iload X311.here hx rfl (hb hby at_243) rfl k_))))) ?_
      show own_Go p e below T311 (mkF m 245 #[.val (.int p0), .val (.int p1), .val (.int p2), .val (.int p3), .val (.int r_1), .val (.int r_2), .val (.int r_3), .val (.ref y_4), .val (.ref y_9), .val (.ref y_14), .val (.ref y_39), .val (.ref b44), .val (.int (8 : Int32))] [(.int r_3)]) _
      rcases hM2 with hA2 | hA2 | hA2
      · skip
        refine own_st (fun t_ k_ => XS.ifYes X311.here hx rfl (pc0 := 245) (pc' := 265) rfl (hb hby at_245) rfl ((if0 _ _).trans (flt (show ¬ ((0 : Int32) < r_3) from (by rw [hA2.1] <;> decide))).2.2.2) (by decide) (by decide) (XS.iload X311.here hx rfl (hb hby at_265) rfl (XS.iconst X311.here hx rfl (hb hby at_267) (XS.icmpYes X311.here hx rfl (pc0 := 268) (pc' := 291) rfl (hb hby at_268) rfl (flt (show ¬ ((1 : Int32) < r_3) from (by rw [hA2.1] <;> decide))).2.2.2 (by decide) (by decide) k_)))) ?_
        show own_Go p e below T311 (mkF m 291 #[.val (.int p0), .val (.int p1), .val (.int p2), .val (.int p3), .val (.int r_1), .val (.int r_2), .val (.int r_3), .val (.ref y_4), .val (.ref y_9), .val (.ref y_14), .val (.ref y_39), .val (.ref b44), .val (.int (8 : Int32))] []) _
        exact tail47 _ _ _ (8 : Int32) [(.int (0 : Int32)), (.int (0 : Int32)), (.int (0 : Int32))] X311 e311 N311 (((((((((Keep.refl h44 [b44]).wr W259 (Or.inl (List.mem_of_getElem? (i := 0) rfl))).wr W263 (Or.inl (List.mem_of_getElem? (i := 0) rfl))).wr W267 (Or.inl (List.mem_of_getElem? (i := 0) rfl))).wr W271 (Or.inl (List.mem_of_getElem? (i := 0) rfl))).wr W299 (Or.inl (List.mem_of_getElem? (i := 0) rfl))).wr W303 (Or.inl (List.mem_of_getElem? (i := 0) rfl))).wr W307 (Or.inl (List.mem_of_getElem? (i := 0) rfl))).wr W311 (Or.inl (List.mem_of_getElem? (i := 0) rfl))) (by rw [hA0.2, hA1.2, hA2.2]; exact V311) (by rw [hA0.2, hA1.2, hA2.2]; rfl)
      · skip
        refine own_st (fun t_ k_ => XS.ifNo X311.here hx rfl (hb hby at_245) rfl ((if0 _ _).trans (tlt (show (0 : Int32) < r_3 from (by rw [hA2.1] <;> decide))).2.2.2) (XS.aload X311.here hx rfl (hb hby at_248) rfl rfl (XS.iload X311.here hx rfl (hb hby at_250) rfl (XS.iloadN X311.here hx rfl (hb hby at_252) rfl (XS.sipush X311.here hx rfl (hb hby at_253) (XS.iand X311.here hx rfl (hb hby at_256) rfl (XS.i2c X311.here hx rfl (hb hby at_257) rfl k_))))))) ?_
        show own_Go p e below T311 (mkF m 258 #[.val (.int p0), .val (.int p1), .val (.int p2), .val (.int p3), .val (.int r_1), .val (.int r_2), .val (.int r_3), .val (.ref y_4), .val (.ref y_9), .val (.ref y_14), .val (.ref y_39), .val (.ref b44), .val (.int (8 : Int32))] [(.int ((p2 &&& (255 : Int32)).toUInt32.toUInt16.toUInt32.toInt32)), (.int (8 : Int32)), (.ref b44)]) _
        rw [own_i255 (own_m255 p2).1 (own_m255 p2).2]
        show own_Go p e below T311 (mkF m 258 #[.val (.int p0), .val (.int p1), .val (.int p2), .val (.int p3), .val (.int r_1), .val (.int r_2), .val (.int r_3), .val (.ref y_4), .val (.ref y_9), .val (.ref y_14), .val (.ref y_39), .val (.ref b44), .val (.int (8 : Int32))] [(.int (p2 &&& (255 : Int32))), (.int (8 : Int32)), (.ref b44)]) _
        obtain ⟨cl314, Ar314, q314, Sz314, Nn314, Hh314, Gg314⟩ := id V311
        have hin314 : ¬ ((8 : Int32) < 0 ∨ cl314.slots.size ≤ ((8 : Int32)).toNatClampNeg) := inb_of Sz314 ⟨by decide, by decide⟩
        obtain ⟨T315, h315, X315, e315, W315, st315⟩ := stC X311 hx hZ e311 Ar314 (j := (8 : Int32)) hin314 (g := (mkF m 258 #[.val (.int p0), .val (.int p1), .val (.int p2), .val (.int p3), .val (.int r_1), .val (.int r_2), .val (.int r_3), .val (.ref y_4), .val (.ref y_9), .val (.ref y_14), .val (.ref y_39), .val (.ref b44), .val (.int (8 : Int32))] [(.int (p2 &&& (255 : Int32))), (.int (8 : Int32)), (.ref b44)])) rfl rfl (hb hby at_258)
        have V315 : Arv Z h315 b44 k44 .char (11 : Int32) [(.int (p0 &&& (255 : Int32))), (.int (own_hi p0 &&& (255 : Int32))), (.int (32 : Int32)), (.int (91 : Int32)), (.int (p1 &&& (255 : Int32))), (.int (93 : Int32)), (.int (58 : Int32)), (.int (32 : Int32)), (.int (nar .char (p2 &&& (255 : Int32)))), (.int (0 : Int32)), (.int (0 : Int32))] (.int (0 : Int32)) := Arv.set Ar314 q314 Sz314 Nn314 Hh314 Gg314 (fits_nar_char _) W315 8 rfl (Nat.le_of_ble_eq_true rfl)
        rw [own_nar (own_w255 p2)] at V315
        have Sa316 : Safe Z own_EL T39.vm h311 b44 := (Safe.arv hZ.alike V311 (by decide))
        have CH316 := CH312.wr W315 Sa316
        have CR316 := CHr.trans CR312 (CHr.wr W315 Sa316 CH312)
        have K317 : Keep h0 h315 [] := K313.wr W315 (Or.inr B44)
        have N315 := Fr.snoc X315 N311 G44
        refine own_st st315 ?_
        show own_Go p e below T315 (mkF m 259 #[.val (.int p0), .val (.int p1), .val (.int p2), .val (.int p3), .val (.int r_1), .val (.int r_2), .val (.int r_3), .val (.ref y_4), .val (.ref y_9), .val (.ref y_14), .val (.ref y_39), .val (.ref b44), .val (.int (8 : Int32))] []) _
        refine own_st (fun t_ k_ => XS.iload X315.here hx rfl (hb hby at_259) rfl (XS.iconst X315.here hx rfl (hb hby at_261) (XS.iadd X315.here hx rfl (hb hby at_262) rfl (XS.istore X315.here hx rfl (hb hby at_263) rfl (l' := #[.val (.int p0), .val (.int p1), .val (.int p2), .val (.int p3), .val (.int r_1), .val (.int r_2), .val (.int r_3), .val (.ref y_4), .val (.ref y_9), .val (.ref y_14), .val (.ref y_39), .val (.ref b44), .val (.int (9 : Int32))]) rfl (XS.iload X315.here hx rfl (hb hby at_265) rfl (XS.iconst X315.here hx rfl (hb hby at_267) (XS.icmpYes X315.here hx rfl (pc0 := 268) (pc' := 291) rfl (hb hby at_268) rfl (flt (show ¬ ((1 : Int32) < r_3) from (by rw [hA2.1] <;> decide))).2.2.2 (by decide) (by decide) k_))))))) ?_
        show own_Go p e below T315 (mkF m 291 #[.val (.int p0), .val (.int p1), .val (.int p2), .val (.int p3), .val (.int r_1), .val (.int r_2), .val (.int r_3), .val (.ref y_4), .val (.ref y_9), .val (.ref y_14), .val (.ref y_39), .val (.ref b44), .val (.int (9 : Int32))] []) _
        exact tail47 _ _ _ (9 : Int32) [(.int (0 : Int32)), (.int (0 : Int32))] X315 e315 N315 ((((((((((Keep.refl h44 [b44]).wr W259 (Or.inl (List.mem_of_getElem? (i := 0) rfl))).wr W263 (Or.inl (List.mem_of_getElem? (i := 0) rfl))).wr W267 (Or.inl (List.mem_of_getElem? (i := 0) rfl))).wr W271 (Or.inl (List.mem_of_getElem? (i := 0) rfl))).wr W299 (Or.inl (List.mem_of_getElem? (i := 0) rfl))).wr W303 (Or.inl (List.mem_of_getElem? (i := 0) rfl))).wr W307 (Or.inl (List.mem_of_getElem? (i := 0) rfl))).wr W311 (Or.inl (List.mem_of_getElem? (i := 0) rfl))).wr W315 (Or.inl (List.mem_of_getElem? (i := 0) rfl))) (by rw [hA0.2, hA1.2, hA2.2]; exact V315) (by rw [hA0.2, hA1.2, hA2.2]; rfl)
      · skip
        refine own_st (fun t_ k_ => XS.ifNo X311.here hx rfl (hb hby at_245) rfl ((if0 _ _).trans (tlt (show (0 : Int32) < r_3 from (by rw [hA2.1] <;> decide))).2.2.2) (XS.aload X311.here hx rfl (hb hby at_248) rfl rfl (XS.iload X311.here hx rfl (hb hby at_250) rfl (XS.iloadN X311.here hx rfl (hb hby at_252) rfl (XS.sipush X311.here hx rfl (hb hby at_253) (XS.iand X311.here hx rfl (hb hby at_256) rfl (XS.i2c X311.here hx rfl (hb hby at_257) rfl k_))))))) ?_
        show own_Go p e below T311 (mkF m 258 #[.val (.int p0), .val (.int p1), .val (.int p2), .val (.int p3), .val (.int r_1), .val (.int r_2), .val (.int r_3), .val (.ref y_4), .val (.ref y_9), .val (.ref y_14), .val (.ref y_39), .val (.ref b44), .val (.int (8 : Int32))] [(.int ((p2 &&& (255 : Int32)).toUInt32.toUInt16.toUInt32.toInt32)), (.int (8 : Int32)), (.ref b44)]) _
        rw [own_i255 (own_m255 p2).1 (own_m255 p2).2]
        show own_Go p e below T311 (mkF m 258 #[.val (.int p0), .val (.int p1), .val (.int p2), .val (.int p3), .val (.int r_1), .val (.int r_2), .val (.int r_3), .val (.ref y_4), .val (.ref y_9), .val (.ref y_14), .val (.ref y_39), .val (.ref b44), .val (.int (8 : Int32))] [(.int (p2 &&& (255 : Int32))), (.int (8 : Int32)), (.ref b44)]) _
        obtain ⟨cl318, Ar318, q318, Sz318, Nn318, Hh318, Gg318⟩ := id V311
        have hin318 : ¬ ((8 : Int32) < 0 ∨ cl318.slots.size ≤ ((8 : Int32)).toNatClampNeg) := inb_of Sz318 ⟨by decide, by decide⟩
        obtain ⟨T319, h319, X319, e319, W319, st319⟩ := stC X311 hx hZ e311 Ar318 (j := (8 : Int32)) hin318 (g := (mkF m 258 #[.val (.int p0), .val (.int p1), .val (.int p2), .val (.int p3), .val (.int r_1), .val (.int r_2), .val (.int r_3), .val (.ref y_4), .val (.ref y_9), .val (.ref y_14), .val (.ref y_39), .val (.ref b44), .val (.int (8 : Int32))] [(.int (p2 &&& (255 : Int32))), (.int (8 : Int32)), (.ref b44)])) rfl rfl (hb hby at_258)
        have V319 : Arv Z h319 b44 k44 .char (11 : Int32) [(.int (p0 &&& (255 : Int32))), (.int (own_hi p0 &&& (255 : Int32))), (.int (32 : Int32)), (.int (91 : Int32)), (.int (p1 &&& (255 : Int32))), (.int (93 : Int32)), (.int (58 : Int32)), (.int (32 : Int32)), (.int (nar .char (p2 &&& (255 : Int32)))), (.int (0 : Int32)), (.int (0 : Int32))] (.int (0 : Int32)) := Arv.set Ar318 q318 Sz318 Nn318 Hh318 Gg318 (fits_nar_char _) W319 8 rfl (Nat.le_of_ble_eq_true rfl)
        rw [own_nar (own_w255 p2)] at V319
        have Sa320 : Safe Z own_EL T39.vm h311 b44 := (Safe.arv hZ.alike V311 (by decide))
        have CH320 := CH312.wr W319 Sa320
        have CR320 := CHr.trans CR312 (CHr.wr W319 Sa320 CH312)
        have K321 : Keep h0 h319 [] := K313.wr W319 (Or.inr B44)
        have N319 := Fr.snoc X319 N311 G44
        refine own_st st319 ?_
        show own_Go p e below T319 (mkF m 259 #[.val (.int p0), .val (.int p1), .val (.int p2), .val (.int p3), .val (.int r_1), .val (.int r_2), .val (.int r_3), .val (.ref y_4), .val (.ref y_9), .val (.ref y_14), .val (.ref y_39), .val (.ref b44), .val (.int (8 : Int32))] []) _
        refine own_st (fun t_ k_ => XS.iload X319.here hx rfl (hb hby at_259) rfl (XS.iconst X319.here hx rfl (hb hby at_261) (XS.iadd X319.here hx rfl (hb hby at_262) rfl (XS.istore X319.here hx rfl (hb hby at_263) rfl (l' := #[.val (.int p0), .val (.int p1), .val (.int p2), .val (.int p3), .val (.int r_1), .val (.int r_2), .val (.int r_3), .val (.ref y_4), .val (.ref y_9), .val (.ref y_14), .val (.ref y_39), .val (.ref b44), .val (.int (9 : Int32))]) rfl (XS.iload X319.here hx rfl (hb hby at_265) rfl (XS.iconst X319.here hx rfl (hb hby at_267) (XS.icmpNo X319.here hx rfl (hb hby at_268) rfl (tlt (show (1 : Int32) < r_3 from (by rw [hA2.1] <;> decide))).2.2.2 (XS.aload X319.here hx rfl (hb hby at_271) rfl rfl (XS.iload X319.here hx rfl (hb hby at_273) rfl (XS.iloadN X319.here hx rfl (hb hby at_275) rfl k_)))))))))) ?_
        show own_Go p e below T319 (mkF m 276 #[.val (.int p0), .val (.int p1), .val (.int p2), .val (.int p3), .val (.int r_1), .val (.int r_2), .val (.int r_3), .val (.ref y_4), .val (.ref y_9), .val (.ref y_14), .val (.ref y_39), .val (.ref b44), .val (.int (9 : Int32))] [(.int p2), (.int (9 : Int32)), (.ref b44)]) _
        refine own_st (fun t_ k_ => XS.bipush X319.here hx rfl (hb hby at_276) (XS.iushr X319.here hx rfl (hb hby at_278) rfl (XS.sipush X319.here hx rfl (hb hby at_279) (XS.iand X319.here hx rfl (hb hby at_282) rfl (XS.i2c X319.here hx rfl (hb hby at_283) rfl k_))))) ?_
        show own_Go p e below T319 (mkF m 284 #[.val (.int p0), .val (.int p1), .val (.int p2), .val (.int p3), .val (.int r_1), .val (.int r_2), .val (.int r_3), .val (.ref y_4), .val (.ref y_9), .val (.ref y_14), .val (.ref y_39), .val (.ref b44), .val (.int (9 : Int32))] [(.int ((((p2.toUInt32 >>> ((8 : Int32) &&& 31).toUInt32).toInt32) &&& (255 : Int32)).toUInt32.toUInt16.toUInt32.toInt32)), (.int (9 : Int32)), (.ref b44)]) _
        rw [own_iu8 p2, own_i255 (own_m255 (own_hi p2)).1 (own_m255 (own_hi p2)).2]
        show own_Go p e below T319 (mkF m 284 #[.val (.int p0), .val (.int p1), .val (.int p2), .val (.int p3), .val (.int r_1), .val (.int r_2), .val (.int r_3), .val (.ref y_4), .val (.ref y_9), .val (.ref y_14), .val (.ref y_39), .val (.ref b44), .val (.int (9 : Int32))] [(.int (own_hi p2 &&& (255 : Int32))), (.int (9 : Int32)), (.ref b44)]) _
        obtain ⟨cl322, Ar322, q322, Sz322, Nn322, Hh322, Gg322⟩ := id V319
        have hin322 : ¬ ((9 : Int32) < 0 ∨ cl322.slots.size ≤ ((9 : Int32)).toNatClampNeg) := inb_of Sz322 ⟨by decide, by decide⟩
        obtain ⟨T323, h323, X323, e323, W323, st323⟩ := stC X319 hx hZ e319 Ar322 (j := (9 : Int32)) hin322 (g := (mkF m 284 #[.val (.int p0), .val (.int p1), .val (.int p2), .val (.int p3), .val (.int r_1), .val (.int r_2), .val (.int r_3), .val (.ref y_4), .val (.ref y_9), .val (.ref y_14), .val (.ref y_39), .val (.ref b44), .val (.int (9 : Int32))] [(.int (own_hi p2 &&& (255 : Int32))), (.int (9 : Int32)), (.ref b44)])) rfl rfl (hb hby at_284)
        have V323 : Arv Z h323 b44 k44 .char (11 : Int32) [(.int (p0 &&& (255 : Int32))), (.int (own_hi p0 &&& (255 : Int32))), (.int (32 : Int32)), (.int (91 : Int32)), (.int (p1 &&& (255 : Int32))), (.int (93 : Int32)), (.int (58 : Int32)), (.int (32 : Int32)), (.int (p2 &&& (255 : Int32))), (.int (nar .char (own_hi p2 &&& (255 : Int32)))), (.int (0 : Int32))] (.int (0 : Int32)) := Arv.set Ar322 q322 Sz322 Nn322 Hh322 Gg322 (fits_nar_char _) W323 9 rfl (Nat.le_of_ble_eq_true rfl)
        rw [own_nar (own_w255 (own_hi p2))] at V323
        have Sa324 : Safe Z own_EL T39.vm h319 b44 := (Safe.arv hZ.alike V319 (by decide))
        have CH324 := CH320.wr W323 Sa324
        have CR324 := CHr.trans CR320 (CHr.wr W323 Sa324 CH320)
        have K325 : Keep h0 h323 [] := K321.wr W323 (Or.inr B44)
        have N323 := Fr.snoc X323 N319 G44
        refine own_st st323 ?_
        show own_Go p e below T323 (mkF m 285 #[.val (.int p0), .val (.int p1), .val (.int p2), .val (.int p3), .val (.int r_1), .val (.int r_2), .val (.int r_3), .val (.ref y_4), .val (.ref y_9), .val (.ref y_14), .val (.ref y_39), .val (.ref b44), .val (.int (9 : Int32))] []) _
        refine own_st (fun t_ k_ => XS.iload X323.here hx rfl (hb hby at_285) rfl (XS.iconst X323.here hx rfl (hb hby at_287) (XS.iadd X323.here hx rfl (hb hby at_288) rfl (XS.istore X323.here hx rfl (hb hby at_289) rfl (l' := #[.val (.int p0), .val (.int p1), .val (.int p2), .val (.int p3), .val (.int r_1), .val (.int r_2), .val (.int r_3), .val (.ref y_4), .val (.ref y_9), .val (.ref y_14), .val (.ref y_39), .val (.ref b44), .val (.int (10 : Int32))]) rfl k_)))) ?_
        show own_Go p e below T323 (mkF m 291 #[.val (.int p0), .val (.int p1), .val (.int p2), .val (.int p3), .val (.int r_1), .val (.int r_2), .val (.int r_3), .val (.ref y_4), .val (.ref y_9), .val (.ref y_14), .val (.ref y_39), .val (.ref b44), .val (.int (10 : Int32))] []) _
        exact tail47 _ _ _ (10 : Int32) [(.int (0 : Int32))] X323 e323 N323 (((((((((((Keep.refl h44 [b44]).wr W259 (Or.inl (List.mem_of_getElem? (i := 0) rfl))).wr W263 (Or.inl (List.mem_of_getElem? (i := 0) rfl))).wr W267 (Or.inl (List.mem_of_getElem? (i := 0) rfl))).wr W271 (Or.inl (List.mem_of_getElem? (i := 0) rfl))).wr W299 (Or.inl (List.mem_of_getElem? (i := 0) rfl))).wr W303 (Or.inl (List.mem_of_getElem? (i := 0) rfl))).wr W307 (Or.inl (List.mem_of_getElem? (i := 0) rfl))).wr W311 (Or.inl (List.mem_of_getElem? (i := 0) rfl))).wr W319 (Or.inl (List.mem_of_getElem? (i := 0) rfl))).wr W323 (Or.inl (List.mem_of_getElem? (i := 0) rfl))) (by rw [hA0.2, hA1.2, hA2.2]; exact V323) (by rw [hA0.2, hA1.2, hA2.2]; rfl)
    · skip
      refine own_st (fun t_ k_ => XS.ifNo X271.here hx rfl (hb hby at_158) rfl ((if0 _ _).trans (tlt (show (0 : Int32) < r_2 from (by rw [hA1.1] <;> decide))).2.2.2) (XS.aload X271.here hx rfl (hb hby at_161) rfl rfl (XS.iload X271.here hx rfl (hb hby at_163) rfl (XS.iloadN X271.here hx rfl (hb hby at_165) rfl (XS.sipush X271.here hx rfl (hb hby at_166) (XS.iand X271.here hx rfl (hb hby at_169) rfl (XS.i2c X271.here hx rfl (hb hby at_170) rfl k_))))))) ?_
      show own_Go p e below T271 (mkF m 171 #[.val (.int p0), .val (.int p1), .val (.int p2), .val (.int p3), .val (.int r_1), .val (.int r_2), .val (.int r_3), .val (.ref y_4), .val (.ref y_9), .val (.ref y_14), .val (.ref y_39), .val (.ref b44), .val (.int (4 : Int32))] [(.int ((p1 &&& (255 : Int32)).toUInt32.toUInt16.toUInt32.toInt32)), (.int (4 : Int32)), (.ref b44)]) _
      rw [own_i255 (own_m255 p1).1 (own_m255 p1).2]
      show own_Go p e below T271 (mkF m 171 #[.val (.int p0), .val (.int p1), .val (.int p2), .val (.int p3), .val (.int r_1), .val (.int r_2), .val (.int r_3), .val (.ref y_4), .val (.ref y_9), .val (.ref y_14), .val (.ref y_39), .val (.ref b44), .val (.int (4 : Int32))] [(.int (p1 &&& (255 : Int32))), (.int (4 : Int32)), (.ref b44)]) _
      obtain ⟨cl326, Ar326, q326, Sz326, Nn326, Hh326, Gg326⟩ := id V271
      have hin326 : ¬ ((4 : Int32) < 0 ∨ cl326.slots.size ≤ ((4 : Int32)).toNatClampNeg) := inb_of Sz326 ⟨by decide, by decide⟩
      obtain ⟨T327, h327, X327, e327, W327, st327⟩ := stC X271 hx hZ e271 Ar326 (j := (4 : Int32)) hin326 (g := (mkF m 171 #[.val (.int p0), .val (.int p1), .val (.int p2), .val (.int p3), .val (.int r_1), .val (.int r_2), .val (.int r_3), .val (.ref y_4), .val (.ref y_9), .val (.ref y_14), .val (.ref y_39), .val (.ref b44), .val (.int (4 : Int32))] [(.int (p1 &&& (255 : Int32))), (.int (4 : Int32)), (.ref b44)])) rfl rfl (hb hby at_171)
      have V327 : Arv Z h327 b44 k44 .char (11 : Int32) [(.int (p0 &&& (255 : Int32))), (.int (own_hi p0 &&& (255 : Int32))), (.int (32 : Int32)), (.int (91 : Int32)), (.int (nar .char (p1 &&& (255 : Int32)))), (.int (0 : Int32)), (.int (0 : Int32)), (.int (0 : Int32)), (.int (0 : Int32)), (.int (0 : Int32)), (.int (0 : Int32))] (.int (0 : Int32)) := Arv.set Ar326 q326 Sz326 Nn326 Hh326 Gg326 (fits_nar_char _) W327 4 rfl (Nat.le_of_ble_eq_true rfl)
      rw [own_nar (own_w255 p1)] at V327
      have Sa328 : Safe Z own_EL T39.vm h271 b44 := (Safe.arv hZ.alike V271 (by decide))
      have CH328 := CH272.wr W327 Sa328
      have CR328 := CHr.trans CR272 (CHr.wr W327 Sa328 CH272)
      have K329 : Keep h0 h327 [] := K273.wr W327 (Or.inr B44)
      have N327 := Fr.snoc X327 N271 G44
      refine own_st st327 ?_
      show own_Go p e below T327 (mkF m 172 #[.val (.int p0), .val (.int p1), .val (.int p2), .val (.int p3), .val (.int r_1), .val (.int r_2), .val (.int r_3), .val (.ref y_4), .val (.ref y_9), .val (.ref y_14), .val (.ref y_39), .val (.ref b44), .val (.int (4 : Int32))] []) _
      refine own_st (fun t_ k_ => XS.iload X327.here hx rfl (hb hby at_172) rfl (XS.iconst X327.here hx rfl (hb hby at_174) (XS.iadd X327.here hx rfl (hb hby at_175) rfl (XS.istore X327.here hx rfl (hb hby at_176) rfl (l' := #[.val (.int p0), .val (.int p1), .val (.int p2), .val (.int p3), .val (.int r_1), .val (.int r_2), .val (.int r_3), .val (.ref y_4), .val (.ref y_9), .val (.ref y_14), .val (.ref y_39), .val (.ref b44), .val (.int (5 : Int32))]) rfl (XS.iload X327.here hx rfl (hb hby at_178) rfl (XS.iconst X327.here hx rfl (hb hby at_180) (XS.icmpNo X327.here hx rfl (hb hby at_181) rfl (tlt (show (1 : Int32) < r_2 from (by rw [hA1.1] <;> decide))).2.2.2 (XS.aload X327.here hx rfl (hb hby at_184) rfl rfl (XS.iload X327.here hx rfl (hb hby at_186) rfl (XS.iloadN X327.here hx rfl (hb hby at_188) rfl k_)))))))))) ?_
      show own_Go p e below T327 (mkF m 189 #[.val (.int p0), .val (.int p1), .val (.int p2), .val (.int p3), .val (.int r_1), .val (.int r_2), .val (.int r_3), .val (.ref y_4), .val (.ref y_9), .val (.ref y_14), .val (.ref y_39), .val (.ref b44), .val (.int (5 : Int32))] [(.int p1), (.int (5 : Int32)), (.ref b44)]) _
      refine own_st (fun t_ k_ => XS.bipush X327.here hx rfl (hb hby at_189) (XS.iushr X327.here hx rfl (hb hby at_191) rfl (XS.sipush X327.here hx rfl (hb hby at_192) (XS.iand X327.here hx rfl (hb hby at_195) rfl (XS.i2c X327.here hx rfl (hb hby at_196) rfl k_))))) ?_
      show own_Go p e below T327 (mkF m 197 #[.val (.int p0), .val (.int p1), .val (.int p2), .val (.int p3), .val (.int r_1), .val (.int r_2), .val (.int r_3), .val (.ref y_4), .val (.ref y_9), .val (.ref y_14), .val (.ref y_39), .val (.ref b44), .val (.int (5 : Int32))] [(.int ((((p1.toUInt32 >>> ((8 : Int32) &&& 31).toUInt32).toInt32) &&& (255 : Int32)).toUInt32.toUInt16.toUInt32.toInt32)), (.int (5 : Int32)), (.ref b44)]) _
      rw [own_iu8 p1, own_i255 (own_m255 (own_hi p1)).1 (own_m255 (own_hi p1)).2]
      show own_Go p e below T327 (mkF m 197 #[.val (.int p0), .val (.int p1), .val (.int p2), .val (.int p3), .val (.int r_1), .val (.int r_2), .val (.int r_3), .val (.ref y_4), .val (.ref y_9), .val (.ref y_14), .val (.ref y_39), .val (.ref b44), .val (.int (5 : Int32))] [(.int (own_hi p1 &&& (255 : Int32))), (.int (5 : Int32)), (.ref b44)]) _
      obtain ⟨cl330, Ar330, q330, Sz330, Nn330, Hh330, Gg330⟩ := id V327
      have hin330 : ¬ ((5 : Int32) < 0 ∨ cl330.slots.size ≤ ((5 : Int32)).toNatClampNeg) := inb_of Sz330 ⟨by decide, by decide⟩
      obtain ⟨T331, h331, X331, e331, W331, st331⟩ := stC X327 hx hZ e327 Ar330 (j := (5 : Int32)) hin330 (g := (mkF m 197 #[.val (.int p0), .val (.int p1), .val (.int p2), .val (.int p3), .val (.int r_1), .val (.int r_2), .val (.int r_3), .val (.ref y_4), .val (.ref y_9), .val (.ref y_14), .val (.ref y_39), .val (.ref b44), .val (.int (5 : Int32))] [(.int (own_hi p1 &&& (255 : Int32))), (.int (5 : Int32)), (.ref b44)])) rfl rfl (hb hby at_197)
      have V331 : Arv Z h331 b44 k44 .char (11 : Int32) [(.int (p0 &&& (255 : Int32))), (.int (own_hi p0 &&& (255 : Int32))), (.int (32 : Int32)), (.int (91 : Int32)), (.int (p1 &&& (255 : Int32))), (.int (nar .char (own_hi p1 &&& (255 : Int32)))), (.int (0 : Int32)), (.int (0 : Int32)), (.int (0 : Int32)), (.int (0 : Int32)), (.int (0 : Int32))] (.int (0 : Int32)) := Arv.set Ar330 q330 Sz330 Nn330 Hh330 Gg330 (fits_nar_char _) W331 5 rfl (Nat.le_of_ble_eq_true rfl)
      rw [own_nar (own_w255 (own_hi p1))] at V331
      have Sa332 : Safe Z own_EL T39.vm h327 b44 := (Safe.arv hZ.alike V327 (by decide))
      have CH332 := CH328.wr W331 Sa332
      have CR332 := CHr.trans CR328 (CHr.wr W331 Sa332 CH328)
      have K333 : Keep h0 h331 [] := K329.wr W331 (Or.inr B44)
      have N331 := Fr.snoc X331 N327 G44
      refine own_st st331 ?_
      show own_Go p e below T331 (mkF m 198 #[.val (.int p0), .val (.int p1), .val (.int p2), .val (.int p3), .val (.int r_1), .val (.int r_2), .val (.int r_3), .val (.ref y_4), .val (.ref y_9), .val (.ref y_14), .val (.ref y_39), .val (.ref b44), .val (.int (5 : Int32))] []) _
      refine own_st (fun t_ k_ => XS.iload X331.here hx rfl (hb hby at_198) rfl (XS.iconst X331.here hx rfl (hb hby at_200) (XS.iadd X331.here hx rfl (hb hby at_201) rfl (XS.istore X331.here hx rfl (hb hby at_202) rfl (l' := #[.val (.int p0), .val (.int p1), .val (.int p2), .val (.int p3), .val (.int r_1), .val (.int r_2), .val (.int r_3), .val (.ref y_4), .val (.ref y_9), .val (.ref y_14), .val (.ref y_39), .val (.ref b44), .val (.int (6 : Int32))]) rfl (XS.aload X331.here hx rfl (hb hby at_204) rfl rfl (XS.iload X331.here hx rfl (hb hby at_206) rfl (XS.bipush X331.here hx rfl (hb hby at_208) k_))))))) ?_
      show own_Go p e below T331 (mkF m 210 #[.val (.int p0), .val (.int p1), .val (.int p2), .val (.int p3), .val (.int r_1), .val (.int r_2), .val (.int r_3), .val (.ref y_4), .val (.ref y_9), .val (.ref y_14), .val (.ref y_39), .val (.ref b44), .val (.int (6 : Int32))] [(.int (93 : Int32)), (.int (6 : Int32)), (.ref b44)]) _
      obtain ⟨cl334, Ar334, q334, Sz334, Nn334, Hh334, Gg334⟩ := id V331
      have hin334 : ¬ ((6 : Int32) < 0 ∨ cl334.slots.size ≤ ((6 : Int32)).toNatClampNeg) := inb_of Sz334 ⟨by decide, by decide⟩
      obtain ⟨T335, h335, X335, e335, W335, st335⟩ := stC X331 hx hZ e331 Ar334 (j := (6 : Int32)) hin334 (g := (mkF m 210 #[.val (.int p0), .val (.int p1), .val (.int p2), .val (.int p3), .val (.int r_1), .val (.int r_2), .val (.int r_3), .val (.ref y_4), .val (.ref y_9), .val (.ref y_14), .val (.ref y_39), .val (.ref b44), .val (.int (6 : Int32))] [(.int (93 : Int32)), (.int (6 : Int32)), (.ref b44)])) rfl rfl (hb hby at_210)
      have V335 : Arv Z h335 b44 k44 .char (11 : Int32) [(.int (p0 &&& (255 : Int32))), (.int (own_hi p0 &&& (255 : Int32))), (.int (32 : Int32)), (.int (91 : Int32)), (.int (p1 &&& (255 : Int32))), (.int (own_hi p1 &&& (255 : Int32))), (.int (nar .char (93 : Int32))), (.int (0 : Int32)), (.int (0 : Int32)), (.int (0 : Int32)), (.int (0 : Int32))] (.int (0 : Int32)) := Arv.set Ar334 q334 Sz334 Nn334 Hh334 Gg334 (fits_nar_char _) W335 6 rfl (Nat.le_of_ble_eq_true rfl)
      rw [(show nar .char (93 : Int32) = (93 : Int32) from rfl)] at V335
      have Sa336 : Safe Z own_EL T39.vm h331 b44 := (Safe.arv hZ.alike V331 (by decide))
      have CH336 := CH332.wr W335 Sa336
      have CR336 := CHr.trans CR332 (CHr.wr W335 Sa336 CH332)
      have K337 : Keep h0 h335 [] := K333.wr W335 (Or.inr B44)
      have N335 := Fr.snoc X335 N331 G44
      refine own_st st335 ?_
      show own_Go p e below T335 (mkF m 211 #[.val (.int p0), .val (.int p1), .val (.int p2), .val (.int p3), .val (.int r_1), .val (.int r_2), .val (.int r_3), .val (.ref y_4), .val (.ref y_9), .val (.ref y_14), .val (.ref y_39), .val (.ref b44), .val (.int (6 : Int32))] []) _
      refine own_st (fun t_ k_ => XS.iload X335.here hx rfl (hb hby at_211) rfl (XS.iconst X335.here hx rfl (hb hby at_213) (XS.iadd X335.here hx rfl (hb hby at_214) rfl (XS.istore X335.here hx rfl (hb hby at_215) rfl (l' := #[.val (.int p0), .val (.int p1), .val (.int p2), .val (.int p3), .val (.int r_1), .val (.int r_2), .val (.int r_3), .val (.ref y_4), .val (.ref y_9), .val (.ref y_14), .val (.ref y_39), .val (.ref b44), .val (.int (7 : Int32))]) rfl (XS.aload X335.here hx rfl (hb hby at_217) rfl rfl (XS.iload X335.here hx rfl (hb hby at_219) rfl (XS.bipush X335.here hx rfl (hb hby at_221) k_))))))) ?_
      show own_Go p e below T335 (mkF m 223 #[.val (.int p0), .val (.int p1), .val (.int p2), .val (.int p3), .val (.int r_1), .val (.int r_2), .val (.int r_3), .val (.ref y_4), .val (.ref y_9), .val (.ref y_14), .val (.ref y_39), .val (.ref b44), .val (.int (7 : Int32))] [(.int (58 : Int32)), (.int (7 : Int32)), (.ref b44)]) _
      obtain ⟨cl338, Ar338, q338, Sz338, Nn338, Hh338, Gg338⟩ := id V335
      have hin338 : ¬ ((7 : Int32) < 0 ∨ cl338.slots.size ≤ ((7 : Int32)).toNatClampNeg) := inb_of Sz338 ⟨by decide, by decide⟩
      obtain ⟨T339, h339, X339, e339, W339, st339⟩ := stC X335 hx hZ e335 Ar338 (j := (7 : Int32)) hin338 (g := (mkF m 223 #[.val (.int p0), .val (.int p1), .val (.int p2), .val (.int p3), .val (.int r_1), .val (.int r_2), .val (.int r_3), .val (.ref y_4), .val (.ref y_9), .val (.ref y_14), .val (.ref y_39), .val (.ref b44), .val (.int (7 : Int32))] [(.int (58 : Int32)), (.int (7 : Int32)), (.ref b44)])) rfl rfl (hb hby at_223)
      have V339 : Arv Z h339 b44 k44 .char (11 : Int32) [(.int (p0 &&& (255 : Int32))), (.int (own_hi p0 &&& (255 : Int32))), (.int (32 : Int32)), (.int (91 : Int32)), (.int (p1 &&& (255 : Int32))), (.int (own_hi p1 &&& (255 : Int32))), (.int (93 : Int32)), (.int (nar .char (58 : Int32))), (.int (0 : Int32)), (.int (0 : Int32)), (.int (0 : Int32))] (.int (0 : Int32)) := Arv.set Ar338 q338 Sz338 Nn338 Hh338 Gg338 (fits_nar_char _) W339 7 rfl (Nat.le_of_ble_eq_true rfl)
      rw [(show nar .char (58 : Int32) = (58 : Int32) from rfl)] at V339
      have Sa340 : Safe Z own_EL T39.vm h335 b44 := (Safe.arv hZ.alike V335 (by decide))
      have CH340 := CH336.wr W339 Sa340
      have CR340 := CHr.trans CR336 (CHr.wr W339 Sa340 CH336)
      have K341 : Keep h0 h339 [] := K337.wr W339 (Or.inr B44)
      have N339 := Fr.snoc X339 N335 G44
      refine own_st st339 ?_
      show own_Go p e below T339 (mkF m 224 #[.val (.int p0), .val (.int p1), .val (.int p2), .val (.int p3), .val (.int r_1), .val (.int r_2), .val (.int r_3), .val (.ref y_4), .val (.ref y_9), .val (.ref y_14), .val (.ref y_39), .val (.ref b44), .val (.int (7 : Int32))] []) _
      refine own_st (fun t_ k_ => XS.iload X339.here hx rfl (hb hby at_224) rfl (XS.iconst X339.here hx rfl (hb hby at_226) (XS.iadd X339.here hx rfl (hb hby at_227) rfl (XS.istore X339.here hx rfl (hb hby at_228) rfl (l' := #[.val (.int p0), .val (.int p1), .val (.int p2), .val (.int p3), .val (.int r_1), .val (.int r_2), .val (.int r_3), .val (.ref y_4), .val (.ref y_9), .val (.ref y_14), .val (.ref y_39), .val (.ref b44), .val (.int (8 : Int32))]) rfl (XS.aload X339.here hx rfl (hb hby at_230) rfl rfl (XS.iload X339.here hx rfl (hb hby at_232) rfl (XS.bipush X339.here hx rfl (hb hby at_234) k_))))))) ?_
      show own_Go p e below T339 (mkF m 236 #[.val (.int p0), .val (.int p1), .val (.int p2), .val (.int p3), .val (.int r_1), .val (.int r_2), .val (.int r_3), .val (.ref y_4), .val (.ref y_9), .val (.ref y_14), .val (.ref y_39), .val (.ref b44), .val (.int (8 : Int32))] [(.int (32 : Int32)), (.int (8 : Int32)), (.ref b44)]) _
      obtain ⟨cl342, Ar342, q342, Sz342, Nn342, Hh342, Gg342⟩ := id V339
      have hin342 : ¬ ((8 : Int32) < 0 ∨ cl342.slots.size ≤ ((8 : Int32)).toNatClampNeg) := inb_of Sz342 ⟨by decide, by decide⟩
      obtain ⟨T343, h343, X343, e343, W343, st343⟩ := stC X339 hx hZ e339 Ar342 (j := (8 : Int32)) hin342 (g := (mkF m 236 #[.val (.int p0), .val (.int p1), .val (.int p2), .val (.int p3), .val (.int r_1), .val (.int r_2), .val (.int r_3), .val (.ref y_4), .val (.ref y_9), .val (.ref y_14), .val (.ref y_39), .val (.ref b44), .val (.int (8 : Int32))] [(.int (32 : Int32)), (.int (8 : Int32)), (.ref b44)])) rfl rfl (hb hby at_236)
      have V343 : Arv Z h343 b44 k44 .char (11 : Int32) [(.int (p0 &&& (255 : Int32))), (.int (own_hi p0 &&& (255 : Int32))), (.int (32 : Int32)), (.int (91 : Int32)), (.int (p1 &&& (255 : Int32))), (.int (own_hi p1 &&& (255 : Int32))), (.int (93 : Int32)), (.int (58 : Int32)), (.int (nar .char (32 : Int32))), (.int (0 : Int32)), (.int (0 : Int32))] (.int (0 : Int32)) := Arv.set Ar342 q342 Sz342 Nn342 Hh342 Gg342 (fits_nar_char _) W343 8 rfl (Nat.le_of_ble_eq_true rfl)
      rw [(show nar .char (32 : Int32) = (32 : Int32) from rfl)] at V343
      have Sa344 : Safe Z own_EL T39.vm h339 b44 := (Safe.arv hZ.alike V339 (by decide))
      have CH344 := CH340.wr W343 Sa344
      have CR344 := CHr.trans CR340 (CHr.wr W343 Sa344 CH340)
      have K345 : Keep h0 h343 [] := K341.wr W343 (Or.inr B44)
      have N343 := Fr.snoc X343 N339 G44
      refine own_st st343 ?_
      show own_Go p e below T343 (mkF m 237 #[.val (.int p0), .val (.int p1), .val (.int p2), .val (.int p3), .val (.int r_1), .val (.int r_2), .val (.int r_3), .val (.ref y_4), .val (.ref y_9), .val (.ref y_14), .val (.ref y_39), .val (.ref b44), .val (.int (8 : Int32))] []) _
      refine own_st (fun t_ k_ => XS.iload X343.here hx rfl (hb hby at_237) rfl (XS.iconst X343.here hx rfl (hb hby at_239) (XS.iadd X343.here hx rfl (hb hby at_240) rfl (XS.istore X343.here hx rfl (hb hby at_241) rfl (l' := #[.val (.int p0), .val (.int p1), .val (.int p2), .val (.int p3), .val (.int r_1), .val (.int r_2), .val (.int r_3), .val (.ref y_4), .val (.ref y_9), .val (.ref y_14), .val (.ref y_39), .val (.ref b44), .val (.int (9 : Int32))]) rfl (XS.iload X343.here hx rfl (hb hby at_243) rfl k_))))) ?_
      show own_Go p e below T343 (mkF m 245 #[.val (.int p0), .val (.int p1), .val (.int p2), .val (.int p3), .val (.int r_1), .val (.int r_2), .val (.int r_3), .val (.ref y_4), .val (.ref y_9), .val (.ref y_14), .val (.ref y_39), .val (.ref b44), .val (.int (9 : Int32))] [(.int r_3)]) _
      rcases hM2 with hA2 | hA2 | hA2
      · skip
        refine own_st (fun t_ k_ => XS.ifYes X343.here hx rfl (pc0 := 245) (pc' := 265) rfl (hb hby at_245) rfl ((if0 _ _).trans (flt (show ¬ ((0 : Int32) < r_3) from (by rw [hA2.1] <;> decide))).2.2.2) (by decide) (by decide) (XS.iload X343.here hx rfl (hb hby at_265) rfl (XS.iconst X343.here hx rfl (hb hby at_267) (XS.icmpYes X343.here hx rfl (pc0 := 268) (pc' := 291) rfl (hb hby at_268) rfl (flt (show ¬ ((1 : Int32) < r_3) from (by rw [hA2.1] <;> decide))).2.2.2 (by decide) (by decide) k_)))) ?_
        show own_Go p e below T343 (mkF m 291 #[.val (.int p0), .val (.int p1), .val (.int p2), .val (.int p3), .val (.int r_1), .val (.int r_2), .val (.int r_3), .val (.ref y_4), .val (.ref y_9), .val (.ref y_14), .val (.ref y_39), .val (.ref b44), .val (.int (9 : Int32))] []) _
        exact tail47 _ _ _ (9 : Int32) [(.int (0 : Int32)), (.int (0 : Int32))] X343 e343 N343 ((((((((((Keep.refl h44 [b44]).wr W259 (Or.inl (List.mem_of_getElem? (i := 0) rfl))).wr W263 (Or.inl (List.mem_of_getElem? (i := 0) rfl))).wr W267 (Or.inl (List.mem_of_getElem? (i := 0) rfl))).wr W271 (Or.inl (List.mem_of_getElem? (i := 0) rfl))).wr W327 (Or.inl (List.mem_of_getElem? (i := 0) rfl))).wr W331 (Or.inl (List.mem_of_getElem? (i := 0) rfl))).wr W335 (Or.inl (List.mem_of_getElem? (i := 0) rfl))).wr W339 (Or.inl (List.mem_of_getElem? (i := 0) rfl))).wr W343 (Or.inl (List.mem_of_getElem? (i := 0) rfl))) (by rw [hA0.2, hA1.2, hA2.2]; exact V343) (by rw [hA0.2, hA1.2, hA2.2]; rfl)
      · skip
        refine own_st (fun t_ k_ => XS.ifNo X343.here hx rfl (hb hby at_245) rfl ((if0 _ _).trans (tlt (show (0 : Int32) < r_3 from (by rw [hA2.1] <;> decide))).2.2.2) (XS.aload X343.here hx rfl (hb hby at_248) rfl rfl (XS.iload X343.here hx rfl (hb hby at_250) rfl (XS.iloadN X343.here hx rfl (hb hby at_252) rfl (XS.sipush X343.here hx rfl (hb hby at_253) (XS.iand X343.here hx rfl (hb hby at_256) rfl (XS.i2c X343.here hx rfl (hb hby at_257) rfl k_))))))) ?_
        show own_Go p e below T343 (mkF m 258 #[.val (.int p0), .val (.int p1), .val (.int p2), .val (.int p3), .val (.int r_1), .val (.int r_2), .val (.int r_3), .val (.ref y_4), .val (.ref y_9), .val (.ref y_14), .val (.ref y_39), .val (.ref b44), .val (.int (9 : Int32))] [(.int ((p2 &&& (255 : Int32)).toUInt32.toUInt16.toUInt32.toInt32)), (.int (9 : Int32)), (.ref b44)]) _
        rw [own_i255 (own_m255 p2).1 (own_m255 p2).2]
        show own_Go p e below T343 (mkF m 258 #[.val (.int p0), .val (.int p1), .val (.int p2), .val (.int p3), .val (.int r_1), .val (.int r_2), .val (.int r_3), .val (.ref y_4), .val (.ref y_9), .val (.ref y_14), .val (.ref y_39), .val (.ref b44), .val (.int (9 : Int32))] [(.int (p2 &&& (255 : Int32))), (.int (9 : Int32)), (.ref b44)]) _
        obtain ⟨cl346, Ar346, q346, Sz346, Nn346, Hh346, Gg346⟩ := id V343
        have hin346 : ¬ ((9 : Int32) < 0 ∨ cl346.slots.size ≤ ((9 : Int32)).toNatClampNeg) := inb_of Sz346 ⟨by decide, by decide⟩
        obtain ⟨T347, h347, X347, e347, W347, st347⟩ := stC X343 hx hZ e343 Ar346 (j := (9 : Int32)) hin346 (g := (mkF m 258 #[.val (.int p0), .val (.int p1), .val (.int p2), .val (.int p3), .val (.int r_1), .val (.int r_2), .val (.int r_3), .val (.ref y_4), .val (.ref y_9), .val (.ref y_14), .val (.ref y_39), .val (.ref b44), .val (.int (9 : Int32))] [(.int (p2 &&& (255 : Int32))), (.int (9 : Int32)), (.ref b44)])) rfl rfl (hb hby at_258)
        have V347 : Arv Z h347 b44 k44 .char (11 : Int32) [(.int (p0 &&& (255 : Int32))), (.int (own_hi p0 &&& (255 : Int32))), (.int (32 : Int32)), (.int (91 : Int32)), (.int (p1 &&& (255 : Int32))), (.int (own_hi p1 &&& (255 : Int32))), (.int (93 : Int32)), (.int (58 : Int32)), (.int (32 : Int32)), (.int (nar .char (p2 &&& (255 : Int32)))), (.int (0 : Int32))] (.int (0 : Int32)) := Arv.set Ar346 q346 Sz346 Nn346 Hh346 Gg346 (fits_nar_char _) W347 9 rfl (Nat.le_of_ble_eq_true rfl)
        rw [own_nar (own_w255 p2)] at V347
        have Sa348 : Safe Z own_EL T39.vm h343 b44 := (Safe.arv hZ.alike V343 (by decide))
        have CH348 := CH344.wr W347 Sa348
        have CR348 := CHr.trans CR344 (CHr.wr W347 Sa348 CH344)
        have K349 : Keep h0 h347 [] := K345.wr W347 (Or.inr B44)
        have N347 := Fr.snoc X347 N343 G44
        refine own_st st347 ?_
        show own_Go p e below T347 (mkF m 259 #[.val (.int p0), .val (.int p1), .val (.int p2), .val (.int p3), .val (.int r_1), .val (.int r_2), .val (.int r_3), .val (.ref y_4), .val (.ref y_9), .val (.ref y_14), .val (.ref y_39), .val (.ref b44), .val (.int (9 : Int32))] []) _
        refine own_st (fun t_ k_ => XS.iload X347.here hx rfl (hb hby at_259) rfl (XS.iconst X347.here hx rfl (hb hby at_261) (XS.iadd X347.here hx rfl (hb hby at_262) rfl (XS.istore X347.here hx rfl (hb hby at_263) rfl (l' := #[.val (.int p0), .val (.int p1), .val (.int p2), .val (.int p3), .val (.int r_1), .val (.int r_2), .val (.int r_3), .val (.ref y_4), .val (.ref y_9), .val (.ref y_14), .val (.ref y_39), .val (.ref b44), .val (.int (10 : Int32))]) rfl (XS.iload X347.here hx rfl (hb hby at_265) rfl (XS.iconst X347.here hx rfl (hb hby at_267) (XS.icmpYes X347.here hx rfl (pc0 := 268) (pc' := 291) rfl (hb hby at_268) rfl (flt (show ¬ ((1 : Int32) < r_3) from (by rw [hA2.1] <;> decide))).2.2.2 (by decide) (by decide) k_))))))) ?_
        show own_Go p e below T347 (mkF m 291 #[.val (.int p0), .val (.int p1), .val (.int p2), .val (.int p3), .val (.int r_1), .val (.int r_2), .val (.int r_3), .val (.ref y_4), .val (.ref y_9), .val (.ref y_14), .val (.ref y_39), .val (.ref b44), .val (.int (10 : Int32))] []) _
        exact tail47 _ _ _ (10 : Int32) [(.int (0 : Int32))] X347 e347 N347 (((((((((((Keep.refl h44 [b44]).wr W259 (Or.inl (List.mem_of_getElem? (i := 0) rfl))).wr W263 (Or.inl (List.mem_of_getElem? (i := 0) rfl))).wr W267 (Or.inl (List.mem_of_getElem? (i := 0) rfl))).wr W271 (Or.inl (List.mem_of_getElem? (i := 0) rfl))).wr W327 (Or.inl (List.mem_of_getElem? (i := 0) rfl))).wr W331 (Or.inl (List.mem_of_getElem? (i := 0) rfl))).wr W335 (Or.inl (List.mem_of_getElem? (i := 0) rfl))).wr W339 (Or.inl (List.mem_of_getElem? (i := 0) rfl))).wr W343 (Or.inl (List.mem_of_getElem? (i := 0) rfl))).wr W347 (Or.inl (List.mem_of_getElem? (i := 0) rfl))) (by rw [hA0.2, hA1.2, hA2.2]; exact V347) (by rw [hA0.2, hA1.2, hA2.2]; rfl)
      · skip
        refine own_st (fun t_ k_ => XS.ifNo X343.here hx rfl (hb hby at_245) rfl ((if0 _ _).trans (tlt (show (0 : Int32) < r_3 from (by rw [hA2.1] <;> decide))).2.2.2) (XS.aload X343.here hx rfl (hb hby at_248) rfl rfl (XS.iload X343.here hx rfl (hb hby at_250) rfl (XS.iloadN X343.here hx rfl (hb hby at_252) rfl (XS.sipush X343.here hx rfl (hb hby at_253) (XS.iand X343.here hx rfl (hb hby at_256) rfl (XS.i2c X343.here hx rfl (hb hby at_257) rfl k_))))))) ?_
        show own_Go p e below T343 (mkF m 258 #[.val (.int p0), .val (.int p1), .val (.int p2), .val (.int p3), .val (.int r_1), .val (.int r_2), .val (.int r_3), .val (.ref y_4), .val (.ref y_9), .val (.ref y_14), .val (.ref y_39), .val (.ref b44), .val (.int (9 : Int32))] [(.int ((p2 &&& (255 : Int32)).toUInt32.toUInt16.toUInt32.toInt32)), (.int (9 : Int32)), (.ref b44)]) _
        rw [own_i255 (own_m255 p2).1 (own_m255 p2).2]
        show own_Go p e below T343 (mkF m 258 #[.val (.int p0), .val (.int p1), .val (.int p2), .val (.int p3), .val (.int r_1), .val (.int r_2), .val (.int r_3), .val (.ref y_4), .val (.ref y_9), .val (.ref y_14), .val (.ref y_39), .val (.ref b44), .val (.int (9 : Int32))] [(.int (p2 &&& (255 : Int32))), (.int (9 : Int32)), (.ref b44)]) _
        obtain ⟨cl350, Ar350, q350, Sz350, Nn350, Hh350, Gg350⟩ := id V343
        have hin350 : ¬ ((9 : Int32) < 0 ∨ cl350.slots.size ≤ ((9 : Int32)).toNatClampNeg) := inb_of Sz350 ⟨by decide, by decide⟩
        obtain ⟨T351, h351, X351, e351, W351, st351⟩ := stC X343 hx hZ e343 Ar350 (j := (9 : Int32)) hin350 (g := (mkF m 258 #[.val (.int p0), .val (.int p1), .val (.int p2), .val (.int p3), .val (.int r_1), .val (.int r_2), .val (.int r_3), .val (.ref y_4), .val (.ref y_9), .val (.ref y_14), .val (.ref y_39), .val (.ref b44), .val (.int (9 : Int32))] [(.int (p2 &&& (255 : Int32))), (.int (9 : Int32)), (.ref b44)])) rfl rfl (hb hby at_258)
        have V351 : Arv Z h351 b44 k44 .char (11 : Int32) [(.int (p0 &&& (255 : Int32))), (.int (own_hi p0 &&& (255 : Int32))), (.int (32 : Int32)), (.int (91 : Int32)), (.int (p1 &&& (255 : Int32))), (.int (own_hi p1 &&& (255 : Int32))), (.int (93 : Int32)), (.int (58 : Int32)), (.int (32 : Int32)), (.int (nar .char (p2 &&& (255 : Int32)))), (.int (0 : Int32))] (.int (0 : Int32)) := Arv.set Ar350 q350 Sz350 Nn350 Hh350 Gg350 (fits_nar_char _) W351 9 rfl (Nat.le_of_ble_eq_true rfl)
        rw [own_nar (own_w255 p2)] at V351
        have Sa352 : Safe Z own_EL T39.vm h343 b44 := (Safe.arv hZ.alike V343 (by decide))
        have CH352 := CH344.wr W351 Sa352
        have CR352 := CHr.trans CR344 (CHr.wr W351 Sa352 CH344)
        have K353 : Keep h0 h351 [] := K345.wr W351 (Or.inr B44)
        have N351 := Fr.snoc X351 N343 G44
        refine own_st st351 ?_
        show own_Go p e below T351 (mkF m 259 #[.val (.int p0), .val (.int p1), .val (.int p2), .val (.int p3), .val (.int r_1), .val (.int r_2), .val (.int r_3), .val (.ref y_4), .val (.ref y_9), .val (.ref y_14), .val (.ref y_39), .val (.ref b44), .val (.int (9 : Int32))] []) _
        refine own_st (fun t_ k_ => XS.iload X351.here hx rfl (hb hby at_259) rfl (XS.iconst X351.here hx rfl (hb hby at_261) (XS.iadd X351.here hx rfl (hb hby at_262) rfl (XS.istore X351.here hx rfl (hb hby at_263) rfl (l' := #[.val (.int p0), .val (.int p1), .val (.int p2), .val (.int p3), .val (.int r_1), .val (.int r_2), .val (.int r_3), .val (.ref y_4), .val (.ref y_9), .val (.ref y_14), .val (.ref y_39), .val (.ref b44), .val (.int (10 : Int32))]) rfl (XS.iload X351.here hx rfl (hb hby at_265) rfl (XS.iconst X351.here hx rfl (hb hby at_267) (XS.icmpNo X351.here hx rfl (hb hby at_268) rfl (tlt (show (1 : Int32) < r_3 from (by rw [hA2.1] <;> decide))).2.2.2 (XS.aload X351.here hx rfl (hb hby at_271) rfl rfl (XS.iload X351.here hx rfl (hb hby at_273) rfl (XS.iloadN X351.here hx rfl (hb hby at_275) rfl k_)))))))))) ?_
        show own_Go p e below T351 (mkF m 276 #[.val (.int p0), .val (.int p1), .val (.int p2), .val (.int p3), .val (.int r_1), .val (.int r_2), .val (.int r_3), .val (.ref y_4), .val (.ref y_9), .val (.ref y_14), .val (.ref y_39), .val (.ref b44), .val (.int (10 : Int32))] [(.int p2), (.int (10 : Int32)), (.ref b44)]) _
        refine own_st (fun t_ k_ => XS.bipush X351.here hx rfl (hb hby at_276) (XS.iushr X351.here hx rfl (hb hby at_278) rfl (XS.sipush X351.here hx rfl (hb hby at_279) (XS.iand X351.here hx rfl (hb hby at_282) rfl (XS.i2c X351.here hx rfl (hb hby at_283) rfl k_))))) ?_
        show own_Go p e below T351 (mkF m 284 #[.val (.int p0), .val (.int p1), .val (.int p2), .val (.int p3), .val (.int r_1), .val (.int r_2), .val (.int r_3), .val (.ref y_4), .val (.ref y_9), .val (.ref y_14), .val (.ref y_39), .val (.ref b44), .val (.int (10 : Int32))] [(.int ((((p2.toUInt32 >>> ((8 : Int32) &&& 31).toUInt32).toInt32) &&& (255 : Int32)).toUInt32.toUInt16.toUInt32.toInt32)), (.int (10 : Int32)), (.ref b44)]) _
        rw [own_iu8 p2, own_i255 (own_m255 (own_hi p2)).1 (own_m255 (own_hi p2)).2]
        show own_Go p e below T351 (mkF m 284 #[.val (.int p0), .val (.int p1), .val (.int p2), .val (.int p3), .val (.int r_1), .val (.int r_2), .val (.int r_3), .val (.ref y_4), .val (.ref y_9), .val (.ref y_14), .val (.ref y_39), .val (.ref b44), .val (.int (10 : Int32))] [(.int (own_hi p2 &&& (255 : Int32))), (.int (10 : Int32)), (.ref b44)]) _
        obtain ⟨cl354, Ar354, q354, Sz354, Nn354, Hh354, Gg354⟩ := id V351
        have hin354 : ¬ ((10 : Int32) < 0 ∨ cl354.slots.size ≤ ((10 : Int32)).toNatClampNeg) := inb_of Sz354 ⟨by decide, by decide⟩
        obtain ⟨T355, h355, X355, e355, W355, st355⟩ := stC X351 hx hZ e351 Ar354 (j := (10 : Int32)) hin354 (g := (mkF m 284 #[.val (.int p0), .val (.int p1), .val (.int p2), .val (.int p3), .val (.int r_1), .val (.int r_2), .val (.int r_3), .val (.ref y_4), .val (.ref y_9), .val (.ref y_14), .val (.ref y_39), .val (.ref b44), .val (.int (10 : Int32))] [(.int (own_hi p2 &&& (255 : Int32))), (.int (10 : Int32)), (.ref b44)])) rfl rfl (hb hby at_284)
        have V355 : Arv Z h355 b44 k44 .char (11 : Int32) [(.int (p0 &&& (255 : Int32))), (.int (own_hi p0 &&& (255 : Int32))), (.int (32 : Int32)), (.int (91 : Int32)), (.int (p1 &&& (255 : Int32))), (.int (own_hi p1 &&& (255 : Int32))), (.int (93 : Int32)), (.int (58 : Int32)), (.int (32 : Int32)), (.int (p2 &&& (255 : Int32))), (.int (nar .char (own_hi p2 &&& (255 : Int32))))] (.int (0 : Int32)) := Arv.set Ar354 q354 Sz354 Nn354 Hh354 Gg354 (fits_nar_char _) W355 10 rfl (Nat.le_of_ble_eq_true rfl)
        rw [own_nar (own_w255 (own_hi p2))] at V355
        have Sa356 : Safe Z own_EL T39.vm h351 b44 := (Safe.arv hZ.alike V351 (by decide))
        have CH356 := CH352.wr W355 Sa356
        have CR356 := CHr.trans CR352 (CHr.wr W355 Sa356 CH352)
        have K357 : Keep h0 h355 [] := K353.wr W355 (Or.inr B44)
        have N355 := Fr.snoc X355 N351 G44
        refine own_st st355 ?_
        show own_Go p e below T355 (mkF m 285 #[.val (.int p0), .val (.int p1), .val (.int p2), .val (.int p3), .val (.int r_1), .val (.int r_2), .val (.int r_3), .val (.ref y_4), .val (.ref y_9), .val (.ref y_14), .val (.ref y_39), .val (.ref b44), .val (.int (10 : Int32))] []) _
        refine own_st (fun t_ k_ => XS.iload X355.here hx rfl (hb hby at_285) rfl (XS.iconst X355.here hx rfl (hb hby at_287) (XS.iadd X355.here hx rfl (hb hby at_288) rfl (XS.istore X355.here hx rfl (hb hby at_289) rfl (l' := #[.val (.int p0), .val (.int p1), .val (.int p2), .val (.int p3), .val (.int r_1), .val (.int r_2), .val (.int r_3), .val (.ref y_4), .val (.ref y_9), .val (.ref y_14), .val (.ref y_39), .val (.ref b44), .val (.int (11 : Int32))]) rfl k_)))) ?_
        show own_Go p e below T355 (mkF m 291 #[.val (.int p0), .val (.int p1), .val (.int p2), .val (.int p3), .val (.int r_1), .val (.int r_2), .val (.int r_3), .val (.ref y_4), .val (.ref y_9), .val (.ref y_14), .val (.ref y_39), .val (.ref b44), .val (.int (11 : Int32))] []) _
        exact tail47 _ _ _ (11 : Int32) [] X355 e355 N355 ((((((((((((Keep.refl h44 [b44]).wr W259 (Or.inl (List.mem_of_getElem? (i := 0) rfl))).wr W263 (Or.inl (List.mem_of_getElem? (i := 0) rfl))).wr W267 (Or.inl (List.mem_of_getElem? (i := 0) rfl))).wr W271 (Or.inl (List.mem_of_getElem? (i := 0) rfl))).wr W327 (Or.inl (List.mem_of_getElem? (i := 0) rfl))).wr W331 (Or.inl (List.mem_of_getElem? (i := 0) rfl))).wr W335 (Or.inl (List.mem_of_getElem? (i := 0) rfl))).wr W339 (Or.inl (List.mem_of_getElem? (i := 0) rfl))).wr W343 (Or.inl (List.mem_of_getElem? (i := 0) rfl))).wr W351 (Or.inl (List.mem_of_getElem? (i := 0) rfl))).wr W355 (Or.inl (List.mem_of_getElem? (i := 0) rfl))) (by rw [hA0.2, hA1.2, hA2.2]; exact V355) (by rw [hA0.2, hA1.2, hA2.2]; rfl)
set_option maxRecDepth 65536 in
set_option maxHeartbeats 40000000 in
theorem comes_1 {Post : Tables → Env → Array Value → State → Outcome → State → Prop} (hpost : ∀ tb e args s v u, (limb_1_1.after args s (.returned v) u = true ∧ limb_1_2.after args s (.returned v) u = true ∧ True) → ReturnedEndW s (.returned v) u (Jvm.fieldLocs frame_1_writes args s ++ Jvm.arrayLocs frame_1_arrays args s ++ Jvm.staticLocs frame_1_statics s) 48 3328 → Post tb e args s (.returned v) u) :
    ArmFor flags0 classFile x code maxLocals ret World_1 tables_1 room_1 Calls_1 rest_1 Pre_1 Post := by
  intro l hfl _ _ p e ha hc hk s m args below hf hA hF happ hP
  obtain ⟨hcalls, hrest, hpre⟩ := hP
  obtain ⟨-, -, -, hnamed, -, -, -, hat⟩ := (Spec.applies_iff hf).mp happ
  obtain ⟨hg, hn⟩ := and_e (Cond.before_iff.mp (show (Jvm.Cond.and given_1 narrow_1).before args s = true from hpre))
  obtain ⟨hc0, hg0⟩ := and_e hg
  obtain ⟨ga0, hg1⟩ := and_e hg0
  obtain ⟨ga1, hg2⟩ := and_e hg1
  obtain ⟨ga2, hg3⟩ := and_e hg2
  have ga3 := hg3
  obtain ⟨w0, w1, w2, w3, rfl⟩ : ∃ w0 w1 w2 w3 : Value, args = #[w0, w1, w2, w3] := by
    have hs : args.size = 4 := by simpa [Cond.value, given_1] using hc0
    obtain ⟨L⟩ := args
    match L, hs with
    | [w0, w1, w2, w3], _ => exact ⟨w0, w1, w2, w3, rfl⟩
  have hw := fun d (hd : d ∈ tables_1) => atoms_spec (ws := Jvm.Cond.code x code maxLocals ret :: tables_1) hat d (List.mem_cons_of_mem _ hd)
  have hfit : Fit s := fun {y c} hc i hi => by
    obtain ⟨ha, rfl⟩ := Array.getElem?_eq_some_iff.mp hc
    have q := List.all_eq_true.mp ((Array.all_eq_true_iff_forall_mem.mp hF) _ (Array.getElem_mem ha)) i (List.mem_range.mpr hi)
    simpa [Array.getElem?_eq_getElem hi] using q
  obtain ⟨hsets, hown0⟩ := atoms_of _ (rest_1_c_eq ▸ (show rest_1_c.before _ s = true from hrest))
  obtain ⟨i0, ei0⟩ := is_v ga0
  obtain rfl : w0 = (.int i0) := Option.some.inj ei0
  obtain ⟨i1, ei1⟩ := is_v ga1
  obtain rfl : w1 = (.int i1) := Option.some.inj ei1
  obtain ⟨i2, ei2⟩ := is_v ga2
  obtain rfl : w2 = (.int i2) := Option.some.inj ei2
  obtain ⟨i3, ei3⟩ := is_v ga3
  obtain rfl : w3 = (.int i3) := Option.some.inj ei3
  have n5 := not_v (Cond.before_iff.mp (hsets _ (List.mem_of_getElem? (i := 2) rfl)))
  obtain ⟨j1, e1⟩ := is_v (Cond.before_iff.mp (hsets _ (List.mem_of_getElem? (i := 1) rfl)))
  have S1 : Sta s s.heap "java/lang/String" "COMPACT_STRINGS" "Z" (.int j1) := Sta.start e1 (Or.inl (hsets _ (List.mem_of_getElem? (i := 0) rfl)))
  have c5 : ¬ (j1 = (0 : Int32)) := gotF (Cond.eq_ints e1 (Term.int_eval (0))) n5
  obtain ⟨v8, e8, r8⟩ := isR_v (Cond.before_iff.mp (hsets _ (List.mem_of_getElem? (i := 8) rfl)))
  have S2 : Sta s s.heap "jdk/internal/util/Preconditions" "SIOOBE_FORMATTER" "Ljava/util/function/BiFunction;" v8 := Sta.start e8 (Or.inl (hsets _ (List.mem_of_getElem? (i := 7) rfl)))
  have hCH0 : CHv s own_EL s.vm s.heap := CHv.start (own_EW hw) (fun p hp => hcalls.1 p hp) (hsets _ (List.mem_of_getElem? (i := 2) rfl)) (own_w hw 27 rfl) (own_w hw 10 rfl)
  obtain ⟨n, o, h1, h2, h3, _, L, rfl, ⟨rfl, N, -⟩, -, hq⟩ := rmLaw l s _ hw tables_1 i0 i1 i2 i3 j1 v8 s.heap s.heap.size (Nat.le_refl _) S1 c5 S2 r8 (Old.start s) p e ha hc hk s m _ below hf ((Spec.applies_iff_loose hf).mp happ).1 ⟨rfl, State.Warmed39.refl s, rfl, hCH0⟩ trivial
  refine ⟨n, _, h1, h2, h3, hpost _ _ _ _ _ _ ⟨Cond.after_iff.mpr rfl, Cond.after_iff.mpr (eq_i res_at (Term.int_eval (1)) rfl), trivial⟩ ⟨hq.1, hq.2.1, hq.2.2.1, (hq.2.2.2.sift fun y hy => Or.inr (N y hy)).mono (by decide) (by decide)⟩⟩
theorem main_1_1 : Claimed_1_1 := comes_1 fun _ _ _ _ _ _ h hF => ⟨h.1, hF⟩
theorem main_1_2 : Claimed_1_2 := comes_1 fun _ _ _ _ _ _ h hF => ⟨h.2.1, hF⟩
end Jvm.Pilot.@@N@@
namespace Jvm.Pilot.@@N@@
open Jvm Jvm.ClassFile Sem Op Lib Jvm.Free Jvm.Stand Jvm.Pilot.@@N@@.Jvm.D
/-! MADE BY PROGRAM (witnessworld.py) out of the Statement's table words and the real class files: 27 classes; the members and pool entries that the words name. The judged class is class 1, her method 3. -/
namespace start1
open Jvm.ClassFile
def u (s : String) : CpInfo := .utf8 (stringToUtf16 s)
/-- a pool by its gaps: so many unusable entries, then the entry; so many at the end -/
def gap : Nat → List CpInfo → List CpInfo
  | 0, r => r
  | n + 1, r => .unusable :: gap n r
def poolList (es : List (Nat × CpInfo)) (last : Nat) : List CpInfo := es.foldr (fun e r => gap e.1 (e.2 :: r)) (gap last [])
def pool (es : List (Nat × CpInfo)) (last : Nat) : Array CpInfo := ⟨poolList es last⟩
def fileOf (pool : Array CpInfo) (this : Nat) (attrs : Array Attribute := #[]) (ms : Array MethodInfo := #[]) (fl : Nat := 33) (sup : Nat := 0) (ifs : Array Nat := #[]) (fds : Array FieldInfo := #[]) : ClassFile where
  minorVersion := 0
  majorVersion := 65
  constantPool := pool
  accessFlags := fl
  thisClass := this
  superClass := sup
  interfaces := ifs
  fields := fds
  methods := ms
  attributes := attrs
def plain (name : String) (sup : Option ClassId) : Class where
  name := name
  kind := .ordinary
  loader := none
  accessFlags := 33
  super := sup
  interfaces := #[]
  cf := none
  fields := #[]
  methods := #[]
  instanceTypes := #[]
  staticTypes := #[]
  resolved := #[]
  callSites := []
  init := .initialized
  statics := none
  mirror := none

def pool0 : Array CpInfo := pool [(5, u "<init>"), (0, u "()V"), (1, .class_ 10), (1, u "java/lang/Object")] 113

def k0c0 : Code := { maxStack := 0, maxLocals := 1, code := object_method_1_code, exceptionTable := #[], attributes := #[] }
def k0m0 : Method := { name := "<init>", desc := "()V", sig := { parameters := [], returnType := none }, accessFlags := 1, code := some k0c0 }
/-- java/lang/Object -/
def k0 : Class := { plain "java/lang/Object" none with
  accessFlags := 33
  interfaces := #[]
  cf := some (fileOf pool0 8 #[] #[{ accessFlags := 1, nameIndex := 5, descriptorIndex := 6, attributes := #[] }] 33 0 #[] #[])
  fields := #[]
  methods := #[k0m0]
  instanceTypes := #[]
  staticTypes := #[]
  resolved := Array.replicate 124 none
  statics := none }

def pool1 : Array CpInfo := pool [(2, .class_ 4), (1, u "java/lang/Object"), (0, u "<init>"), (0, u "()V"), (0, .class_ 8), (0, u "java/lang/String"), (0, .methodref 7 10), (0, .nameAndType 5 11), (0, u "([C)V"), (0, .methodref 7 13), (0, .nameAndType 14 15), (0, u "charAt"), (0, u "(I)C"), (0, .methodref 17 18), (0, .class_ 19), (0, .nameAndType 20 21), (0, u "java/lang/Math"), (0, u "min"), (0, u "(II)I"), (0, .methodref 23 24), (0, .class_ 25), (0, .nameAndType 26 27), (0, u "com/example/beanharness/beanharness/FindingToStringPinLaw"), (0, u "mk"), (0, u "(II)Ljava/lang/String;"), (0, .class_ 29), (0, u "com/example/beanharness/beanharness/Finding"), (0, .methodref 28 31), (0, .nameAndType 5 32), (0, u "(Ljava/lang/String;Ljava/lang/String;Ljava/lang/String;)V"), (0, .methodref 28 34), (0, .nameAndType 35 36), (0, u "toString"), (0, u "()Ljava/lang/String;"), (0, .methodref 7 38), (0, .nameAndType 39 40), (0, u "length"), (0, u "()I"), (0, .methodref 23 42), (0, .nameAndType 43 44), (0, u "at"), (0, u "(Ljava/lang/String;[CII)Z"), (5, u "law"), (0, u "(IIII)Z")] 2

def k1m0 : Method := { name := "<init>", desc := "()V", sig := { parameters := [], returnType := none }, accessFlags := 1, code := none }
def k1c1 : Code := { maxStack := 4, maxLocals := 3, code := method_2_code, exceptionTable := #[], attributes := #[] }
def k1m1 : Method := { name := "mk", desc := "(II)Ljava/lang/String;", sig := { parameters := [.int, .int], returnType := some (.object "java/lang/String") }, accessFlags := 10, code := some k1c1 }
def k1c2 : Code := { maxStack := 3, maxLocals := 4, code := method_3_code, exceptionTable := #[], attributes := #[] }
def k1m2 : Method := { name := "at", desc := "(Ljava/lang/String;[CII)Z", sig := { parameters := [(.object "java/lang/String"), (.array .char), .int, .int], returnType := some .boolean }, accessFlags := 10, code := some k1c2 }
def k1c3 : Code := { maxStack := 5, maxLocals := 13, code := code, exceptionTable := #[], attributes := #[] }
def k1m3 : Method := { name := "law", desc := "(IIII)Z", sig := { parameters := [.int, .int, .int, .int], returnType := some .boolean }, accessFlags := 9, code := some k1c3 }
/-- com/example/beanharness/beanharness/FindingToStringPinLaw -/
def k1 : Class := { plain "com/example/beanharness/beanharness/FindingToStringPinLaw" (some 0) with
  accessFlags := 49
  interfaces := #[]
  cf := some (fileOf pool1 23 #[] #[{ accessFlags := 1, nameIndex := 5, descriptorIndex := 6, attributes := #[] }, { accessFlags := 10, nameIndex := 26, descriptorIndex := 27, attributes := #[] }, { accessFlags := 10, nameIndex := 43, descriptorIndex := 44, attributes := #[] }, { accessFlags := 9, nameIndex := 50, descriptorIndex := 51, attributes := #[] }] 49 2 #[] #[])
  fields := #[]
  methods := #[k1m0, k1m1, k1m2, k1m3]
  instanceTypes := #[]
  staticTypes := #[]
  resolved := Array.replicate 54 none
  statics := none }

def pool2 : Array CpInfo := pool [(1, .class_ 2), (0, u "java/lang/Math"), (1, .class_ 6), (1, u "java/lang/Object"), (0, u "<init>"), (0, u "()V"), (89, .class_ 100), (1, u "java/lang/Math$RandomNumberGeneratorHolder"), (71, u "negativeZeroFloatBits"), (0, u "J"), (2, u "negativeZeroDoubleBits"), (24, u "min"), (43, u "$assertionsDisabled"), (0, u "Z"), (88, u "(II)I"), (2, u "twoToTheDoubleScaleDown"), (0, u "D"), (4, u "twoToTheDoubleScaleUp"), (9, u "E"), (3, u "PI"), (2, u "TAU"), (2, u "DEGREES_TO_RADIANS"), (0, u "RADIANS_TO_DEGREES")] 94

def k2m0 : Method := { name := "<init>", desc := "()V", sig := { parameters := [], returnType := none }, accessFlags := 2, code := none }
def k2c1 : Code := { maxStack := 2, maxLocals := 2, code := jdk_29_method_69_code, exceptionTable := #[], attributes := #[] }
def k2m1 : Method := { name := "min", desc := "(II)I", sig := { parameters := [.int, .int], returnType := some .int }, accessFlags := 9, code := some k2c1 }
/-- java/lang/Math -/
def k2 : Class := { plain "java/lang/Math" (some 0) with
  accessFlags := 49
  interfaces := #[]
  cf := some (fileOf pool2 1 #[.nestMembers #[98]] #[{ accessFlags := 2, nameIndex := 7, descriptorIndex := 8, attributes := #[] }, { accessFlags := 9, nameIndex := 201, descriptorIndex := 335, attributes := #[] }] 49 4 #[] #[{ accessFlags := 25, nameIndex := 354, descriptorIndex := 339, attributes := #[] }, { accessFlags := 25, nameIndex := 358, descriptorIndex := 339, attributes := #[] }, { accessFlags := 25, nameIndex := 361, descriptorIndex := 339, attributes := #[] }, { accessFlags := 26, nameIndex := 364, descriptorIndex := 339, attributes := #[] }, { accessFlags := 26, nameIndex := 365, descriptorIndex := 339, attributes := #[] }, { accessFlags := 26, nameIndex := 172, descriptorIndex := 173, attributes := #[] }, { accessFlags := 26, nameIndex := 176, descriptorIndex := 173, attributes := #[] }, { accessFlags := 8, nameIndex := 344, descriptorIndex := 339, attributes := #[] }, { accessFlags := 8, nameIndex := 338, descriptorIndex := 339, attributes := #[] }, { accessFlags := 4120, nameIndex := 245, descriptorIndex := 246, attributes := #[] }])
  fields := #[{ name := "E", type := .double, accessFlags := 25, slot := 0, constantValue := 0 }, { name := "PI", type := .double, accessFlags := 25, slot := 1, constantValue := 0 }, { name := "TAU", type := .double, accessFlags := 25, slot := 2, constantValue := 0 }, { name := "DEGREES_TO_RADIANS", type := .double, accessFlags := 26, slot := 3, constantValue := 0 }, { name := "RADIANS_TO_DEGREES", type := .double, accessFlags := 26, slot := 4, constantValue := 0 }, { name := "negativeZeroFloatBits", type := .long, accessFlags := 26, slot := 5, constantValue := 0 }, { name := "negativeZeroDoubleBits", type := .long, accessFlags := 26, slot := 6, constantValue := 0 }, { name := "twoToTheDoubleScaleUp", type := .double, accessFlags := 8, slot := 7, constantValue := 0 }, { name := "twoToTheDoubleScaleDown", type := .double, accessFlags := 8, slot := 8, constantValue := 0 }, { name := "$assertionsDisabled", type := .boolean, accessFlags := 4120, slot := 9, constantValue := 0 }]
  methods := #[k2m0, k2m1]
  instanceTypes := #[]
  staticTypes := #[.double, .double, .double, .double, .double, .long, .long, .double, .double, .boolean]
  resolved := Array.replicate 460 none
  statics := none }

def pool3 : Array CpInfo := pool [(1, .class_ 2), (0, u "java/io/Serializable"), (0, .class_ 4), (0, u "java/lang/Object")] 2

/-- java/io/Serializable -/
def k3 : Class := { plain "java/io/Serializable" (some 0) with
  accessFlags := 1537
  interfaces := #[]
  cf := some (fileOf pool3 1 #[] #[] 1537 3 #[] #[])
  fields := #[]
  methods := #[]
  instanceTypes := #[]
  staticTypes := #[]
  resolved := Array.replicate 7 none
  statics := none }

def pool4 : Array CpInfo := pool [(1, .class_ 2), (0, u "java/lang/Comparable"), (0, .class_ 4), (0, u "java/lang/Object")] 7

/-- java/lang/Comparable -/
def k4 : Class := { plain "java/lang/Comparable" (some 0) with
  accessFlags := 1537
  interfaces := #[]
  cf := some (fileOf pool4 1 #[] #[] 1537 3 #[] #[])
  fields := #[]
  methods := #[]
  instanceTypes := #[]
  staticTypes := #[]
  resolved := Array.replicate 12 none
  statics := none }

def pool5 : Array CpInfo := pool [(2, .class_ 4), (1, u "java/lang/CharSequence"), (42, .class_ 48), (0, u "java/lang/CharSequence$1CodePointIterator"), (10, .class_ 60), (0, u "java/lang/CharSequence$1CharIterator"), (5, .class_ 67), (0, u "java/lang/Object")] 63

/-- java/lang/CharSequence -/
def k5 : Class := { plain "java/lang/CharSequence" (some 0) with
  accessFlags := 1537
  interfaces := #[]
  cf := some (fileOf pool5 2 #[.nestMembers #[47, 59]] #[] 1537 66 #[] #[])
  fields := #[]
  methods := #[]
  instanceTypes := #[]
  staticTypes := #[]
  resolved := Array.replicate 131 none
  statics := none }

def pool6 : Array CpInfo := pool [(1, .class_ 2), (0, u "java/lang/constant/Constable"), (0, .class_ 4), (0, u "java/lang/Object")] 6

/-- java/lang/constant/Constable -/
def k6 : Class := { plain "java/lang/constant/Constable" (some 0) with
  accessFlags := 1537
  interfaces := #[]
  cf := some (fileOf pool6 1 #[] #[] 1537 3 #[] #[])
  fields := #[]
  methods := #[]
  instanceTypes := #[]
  staticTypes := #[]
  resolved := Array.replicate 11 none
  statics := none }

def pool7 : Array CpInfo := pool [(1, .class_ 2), (0, u "java/lang/constant/ConstantDesc"), (0, .class_ 4), (0, u "java/lang/Object")] 32

/-- java/lang/constant/ConstantDesc -/
def k7 : Class := { plain "java/lang/constant/ConstantDesc" (some 0) with
  accessFlags := 1537
  interfaces := #[]
  cf := some (fileOf pool7 1 #[] #[] 1537 3 #[] #[])
  fields := #[]
  methods := #[]
  instanceTypes := #[]
  staticTypes := #[]
  resolved := Array.replicate 37 none
  statics := none }

def pool8 : Array CpInfo := pool [(1, .methodref 2 3), (0, .class_ 4), (0, .nameAndType 5 6), (0, u "java/lang/Object"), (0, u "<init>"), (0, u "()V"), (0, .string 8), (0, u ""), (0, .fieldref 10 11), (0, .class_ 12), (0, .nameAndType 13 14), (0, u "java/lang/String"), (0, u "value"), (0, u "[B"), (0, .fieldref 10 16), (0, .nameAndType 17 18), (0, u "coder"), (0, u "B"), (2, u "hash"), (0, u "I"), (2, u "hashIsZero"), (0, u "Z"), (0, .methodref 10 28), (0, .nameAndType 5 29), (0, u "([CIILjava/lang/Void;)V"), (8, .fieldref 10 39), (0, .nameAndType 40 26), (0, u "COMPACT_STRINGS"), (1, .class_ 44), (1, u "java/lang/StringUTF16"), (0, u "compress"), (1, .methodref 42 48), (0, .nameAndType 49 50), (0, u "coderFromArrayLen"), (0, u "([BI)B"), (3, .methodref 55 56), (0, .class_ 57), (0, .nameAndType 58 59), (0, u "java/util/Arrays"), (0, u "copyOfRange"), (0, u "([BII)[B"), (47, .class_ 109), (1, u "java/lang/StringLatin1"), (32, u "()Z"), (34, .methodref 42 178), (0, .nameAndType 45 179), (0, u "([CII)[B"), (13, .class_ 195), (1, u "java/lang/System"), (16, .methodref 193 213), (0, .nameAndType 214 215), (0, u "arraycopy"), (0, u "(Ljava/lang/Object;ILjava/lang/Object;II)V"), (118, u "()I"), (0, .methodref 10 336), (0, .nameAndType 17 337), (0, u "()B"), (2, u "()[B"), (22, u "([BI)C"), (27, u "(II)V"), (35, u "(I)C"), (61, .methodref 10 490), (0, .nameAndType 5 491), (0, u "(Ljava/lang/AbstractStringBuilder;Ljava/lang/Void;)V"), (0, .methodref 10 493), (0, .nameAndType 494 142), (0, u "isLatin1"), (0, .methodref 107 496), (0, .nameAndType 497 363), (0, u "charAt"), (3, u "checkIndex"), (4, .nameAndType 507 334), (0, u "length"), (24, u "getBytes"), (16, .methodref 550 506), (0, .class_ 551), (0, u "java/lang/AbstractStringBuilder"), (0, .methodref 550 553), (0, .nameAndType 554 340), (0, u "getValue"), (20, .class_ 576), (0, u "java/lang/CharSequence"), (22, u "CASE_INSENSITIVE_ORDER"), (0, u "Ljava/util/Comparator;"), (220, u "([BIB)V"), (188, u "([C)V"), (36, .methodref 550 493), (5, .fieldref 1054 1055), (0, .class_ 1056), (0, .nameAndType 1057 1058), (0, u "jdk/internal/util/Preconditions"), (0, u "SIOOBE_FORMATTER"), (0, u "Ljava/util/function/BiFunction;"), (0, .methodref 1054 1060), (0, .nameAndType 501 1061), (0, u "(IILjava/util/function/BiFunction;)I"), (39, u "serialPersistentFields"), (0, u "[Ljava/io/ObjectStreamField;"), (0, .class_ 1104), (0, u "java/lang/String$CaseInsensitiveComparator"), (1, .class_ 1107), (0, u "java/io/Serializable"), (0, .class_ 1109), (0, u "java/lang/Comparable"), (0, .class_ 1111), (0, u "java/lang/constant/Constable"), (0, .class_ 1113), (0, u "java/lang/constant/ConstantDesc"), (2, u "serialVersionUID"), (0, u "J"), (3, u "REPL"), (0, u "C"), (2, u "LATIN1"), (1, u "UTF16"), (105, u "(Ljava/lang/StringBuilder;)V")] 217

def k8m0 : Method := { name := "<init>", desc := "()V", sig := { parameters := [], returnType := none }, accessFlags := 1, code := none }
def k8c1 : Code := { maxStack := 5, maxLocals := 2, code := jdk_42_method_3_code, exceptionTable := #[], attributes := #[] }
def k8m1 : Method := { name := "<init>", desc := "([C)V", sig := { parameters := [(.array .char)], returnType := none }, accessFlags := 1, code := some k8c1 }
def k8c2 : Code := { maxStack := 3, maxLocals := 2, code := jdk_42_method_53_code, exceptionTable := #[], attributes := #[] }
def k8m2 : Method := { name := "<init>", desc := "(Ljava/lang/StringBuilder;)V", sig := { parameters := [(.object "java/lang/StringBuilder")], returnType := none }, accessFlags := 1, code := some k8c2 }
def k8c3 : Code := { maxStack := 2, maxLocals := 1, code := jdk_42_method_54_code, exceptionTable := #[], attributes := #[] }
def k8m3 : Method := { name := "length", desc := "()I", sig := { parameters := [], returnType := some .int }, accessFlags := 1, code := some k8c3 }
def k8c4 : Code := { maxStack := 2, maxLocals := 2, code := jdk_42_method_56_code, exceptionTable := #[], attributes := #[] }
def k8m4 : Method := { name := "charAt", desc := "(I)C", sig := { parameters := [.int], returnType := some .char }, accessFlags := 1, code := some k8c4 }
def k8c5 : Code := { maxStack := 5, maxLocals := 4, code := jdk_42_method_147_code, exceptionTable := #[], attributes := #[] }
def k8m5 : Method := { name := "getBytes", desc := "([BIB)V", sig := { parameters := [(.array .byte), .int, .byte], returnType := none }, accessFlags := 0, code := some k8c5 }
def k8c6 : Code := { maxStack := 4, maxLocals := 6, code := jdk_42_method_149_code, exceptionTable := #[], attributes := #[] }
def k8m6 : Method := { name := "<init>", desc := "([CIILjava/lang/Void;)V", sig := { parameters := [(.array .char), .int, .int, (.object "java/lang/Void")], returnType := none }, accessFlags := 2, code := some k8c6 }
def k8c7 : Code := { maxStack := 5, maxLocals := 5, code := jdk_42_method_150_code, exceptionTable := #[], attributes := #[] }
def k8m7 : Method := { name := "<init>", desc := "(Ljava/lang/AbstractStringBuilder;Ljava/lang/Void;)V", sig := { parameters := [(.object "java/lang/AbstractStringBuilder"), (.object "java/lang/Void")], returnType := none }, accessFlags := 0, code := some k8c7 }
def k8c8 : Code := { maxStack := 1, maxLocals := 1, code := jdk_42_method_152_code, exceptionTable := #[], attributes := #[] }
def k8m8 : Method := { name := "coder", desc := "()B", sig := { parameters := [], returnType := some .byte }, accessFlags := 0, code := some k8c8 }
def k8c9 : Code := { maxStack := 1, maxLocals := 1, code := jdk_42_method_154_code, exceptionTable := #[], attributes := #[] }
def k8m9 : Method := { name := "isLatin1", desc := "()Z", sig := { parameters := [], returnType := some .boolean }, accessFlags := 0, code := some k8c9 }
def k8c10 : Code := { maxStack := 3, maxLocals := 2, code := jdk_42_method_155_code, exceptionTable := #[], attributes := #[] }
def k8m10 : Method := { name := "checkIndex", desc := "(II)V", sig := { parameters := [.int, .int], returnType := none }, accessFlags := 8, code := some k8c10 }
/-- java/lang/String -/
def k8 : Class := { plain "java/lang/String" (some 0) with
  accessFlags := 49
  interfaces := #[3, 4, 5, 6, 7]
  cf := some (fileOf pool8 10 #[.nestMembers #[1103]] #[{ accessFlags := 1, nameIndex := 5, descriptorIndex := 6, attributes := #[] }, { accessFlags := 1, nameIndex := 5, descriptorIndex := 1010, attributes := #[] }, { accessFlags := 1, nameIndex := 5, descriptorIndex := 1233, attributes := #[] }, { accessFlags := 1, nameIndex := 507, descriptorIndex := 334, attributes := #[] }, { accessFlags := 1, nameIndex := 497, descriptorIndex := 427, attributes := #[] }, { accessFlags := 0, nameIndex := 532, descriptorIndex := 821, attributes := #[] }, { accessFlags := 2, nameIndex := 5, descriptorIndex := 29, attributes := #[] }, { accessFlags := 0, nameIndex := 5, descriptorIndex := 491, attributes := #[] }, { accessFlags := 0, nameIndex := 17, descriptorIndex := 337, attributes := #[] }, { accessFlags := 0, nameIndex := 494, descriptorIndex := 142, attributes := #[] }, { accessFlags := 8, nameIndex := 501, descriptorIndex := 391, attributes := #[] }] 49 2 #[1106, 1108, 575, 1110, 1112] #[{ accessFlags := 18, nameIndex := 13, descriptorIndex := 14, attributes := #[] }, { accessFlags := 18, nameIndex := 17, descriptorIndex := 18, attributes := #[] }, { accessFlags := 2, nameIndex := 21, descriptorIndex := 22, attributes := #[] }, { accessFlags := 2, nameIndex := 25, descriptorIndex := 26, attributes := #[] }, { accessFlags := 26, nameIndex := 1116, descriptorIndex := 1117, attributes := #[] }, { accessFlags := 24, nameIndex := 40, descriptorIndex := 26, attributes := #[] }, { accessFlags := 26, nameIndex := 1101, descriptorIndex := 1102, attributes := #[] }, { accessFlags := 26, nameIndex := 1121, descriptorIndex := 1122, attributes := #[] }, { accessFlags := 25, nameIndex := 599, descriptorIndex := 600, attributes := #[] }, { accessFlags := 24, nameIndex := 1125, descriptorIndex := 18, attributes := #[] }, { accessFlags := 24, nameIndex := 1127, descriptorIndex := 18, attributes := #[] }])
  fields := #[{ name := "value", type := (.array .byte), accessFlags := 18, slot := 0, constantValue := 0 }, { name := "coder", type := .byte, accessFlags := 18, slot := 1, constantValue := 0 }, { name := "hash", type := .int, accessFlags := 2, slot := 2, constantValue := 0 }, { name := "hashIsZero", type := .boolean, accessFlags := 2, slot := 3, constantValue := 0 }, { name := "serialVersionUID", type := .long, accessFlags := 26, slot := 0, constantValue := 0 }, { name := "COMPACT_STRINGS", type := .boolean, accessFlags := 24, slot := 1, constantValue := 0 }, { name := "serialPersistentFields", type := (.array (.object "java/io/ObjectStreamField")), accessFlags := 26, slot := 2, constantValue := 0 }, { name := "REPL", type := .char, accessFlags := 26, slot := 3, constantValue := 0 }, { name := "CASE_INSENSITIVE_ORDER", type := (.object "java/util/Comparator"), accessFlags := 25, slot := 4, constantValue := 0 }, { name := "LATIN1", type := .byte, accessFlags := 24, slot := 5, constantValue := 0 }, { name := "UTF16", type := .byte, accessFlags := 24, slot := 6, constantValue := 0 }]
  methods := #[k8m0, k8m1, k8m2, k8m3, k8m4, k8m5, k8m6, k8m7, k8m8, k8m9, k8m10]
  instanceTypes := #[(.array .byte), .byte, .int, .boolean]
  staticTypes := #[.long, .boolean, (.array (.object "java/io/ObjectStreamField")), .char, (.object "java/util/Comparator"), .byte, .byte]
  resolved := Array.replicate 1451 none
  statics := some 0 }

def pool9 : Array CpInfo := pool [(6, .class_ 8), (1, u "java/lang/Object"), (0, u "<init>"), (0, u "()V"), (1, .class_ 14), (1, u "java/lang/StringUTF16"), (31, u "$assertionsDisabled"), (0, u "Z"), (13, u "HI_BYTE_SHIFT"), (0, u "I"), (2, u "LO_BYTE_SHIFT"), (49, .methodref 12 116), (0, .nameAndType 117 118), (0, u "compress"), (0, u "([CI[BII)I"), (3, u "([CII)[B"), (138, u "coderFromArrayLen"), (0, u "([BI)B"), (106, .class_ 371), (1, u "java/lang/StringUTF16$LinesSpliterator"), (58, u "MAX_LENGTH"), (196, .class_ 628), (0, u "java/lang/StringUTF16$CodePointsSpliterator"), (0, .class_ 630), (0, u "java/lang/StringUTF16$CharsSpliterator")] 4

def k9m0 : Method := { name := "<init>", desc := "()V", sig := { parameters := [], returnType := none }, accessFlags := 0, code := none }
def k9c1 : Code := { maxStack := 2, maxLocals := 2, code := jdk_52_method_15_code, exceptionTable := #[], attributes := #[] }
def k9m1 : Method := { name := "coderFromArrayLen", desc := "([BI)B", sig := { parameters := [(.array .byte), .int], returnType := some .byte }, accessFlags := 8, code := some k9c1 }
def k9c2 : Code := { maxStack := 5, maxLocals := 6, code := jdk_52_method_16_code, exceptionTable := #[], attributes := #[] }
def k9m2 : Method := { name := "compress", desc := "([CII)[B", sig := { parameters := [(.array .char), .int, .int], returnType := some (.array .byte) }, accessFlags := 9, code := some k9c2 }
def k9c3 : Code := { maxStack := 3, maxLocals := 7, code := jdk_52_method_21_code, exceptionTable := #[], attributes := #[] }
def k9m3 : Method := { name := "compress", desc := "([CI[BII)I", sig := { parameters := [(.array .char), .int, (.array .byte), .int, .int], returnType := some .int }, accessFlags := 9, code := some k9c3 }
/-- java/lang/StringUTF16 -/
def k9 : Class := { plain "java/lang/StringUTF16" (some 0) with
  accessFlags := 48
  interfaces := #[]
  cf := some (fileOf pool9 12 #[.nestMembers #[627, 629, 369]] #[{ accessFlags := 0, nameIndex := 9, descriptorIndex := 10, attributes := #[] }, { accessFlags := 8, nameIndex := 261, descriptorIndex := 262, attributes := #[] }, { accessFlags := 9, nameIndex := 117, descriptorIndex := 122, attributes := #[] }, { accessFlags := 9, nameIndex := 117, descriptorIndex := 118, attributes := #[] }] 48 6 #[] #[{ accessFlags := 26, nameIndex := 61, descriptorIndex := 62, attributes := #[] }, { accessFlags := 26, nameIndex := 65, descriptorIndex := 62, attributes := #[] }, { accessFlags := 24, nameIndex := 430, descriptorIndex := 62, attributes := #[] }, { accessFlags := 4120, nameIndex := 46, descriptorIndex := 47, attributes := #[] }])
  fields := #[{ name := "HI_BYTE_SHIFT", type := .int, accessFlags := 26, slot := 0, constantValue := 0 }, { name := "LO_BYTE_SHIFT", type := .int, accessFlags := 26, slot := 1, constantValue := 0 }, { name := "MAX_LENGTH", type := .int, accessFlags := 24, slot := 2, constantValue := 0 }, { name := "$assertionsDisabled", type := .boolean, accessFlags := 4120, slot := 3, constantValue := 0 }]
  methods := #[k9m0, k9m1, k9m2, k9m3]
  instanceTypes := #[]
  staticTypes := #[.int, .int, .int, .boolean]
  resolved := Array.replicate 635 none
  statics := none }

def pool10 : Array CpInfo := pool [(1, .methodref 2 3), (0, .class_ 4), (0, .nameAndType 5 6), (0, u "java/lang/Object"), (0, u "<init>"), (0, u "()V"), (0, .class_ 8), (0, u "java/lang/Record")] 13

def k10c0 : Code := { maxStack := 1, maxLocals := 1, code := jdk_30_method_1_code, exceptionTable := #[], attributes := #[] }
def k10m0 : Method := { name := "<init>", desc := "()V", sig := { parameters := [], returnType := none }, accessFlags := 4, code := some k10c0 }
/-- java/lang/Record -/
def k10 : Class := { plain "java/lang/Record" (some 0) with
  accessFlags := 1057
  interfaces := #[]
  cf := some (fileOf pool10 7 #[] #[{ accessFlags := 4, nameIndex := 5, descriptorIndex := 6, attributes := #[] }] 1057 2 #[] #[])
  fields := #[]
  methods := #[k10m0]
  instanceTypes := #[]
  staticTypes := #[]
  resolved := Array.replicate 22 none
  statics := none }

def pool11 : Array CpInfo := pool [(1, .methodref 2 3), (0, .class_ 4), (0, .nameAndType 5 6), (0, u "java/lang/Record"), (0, u "<init>"), (0, u "()V"), (0, .fieldref 8 9), (0, .class_ 10), (0, .nameAndType 11 12), (0, u "com/example/beanharness/beanharness/Finding"), (0, u "property"), (0, u "Ljava/lang/String;"), (0, .fieldref 8 14), (0, .nameAndType 15 12), (0, u "check"), (0, .fieldref 8 17), (0, .nameAndType 18 12), (0, u "message"), (0, .class_ 20), (0, u "java/lang/StringBuilder"), (0, .methodref 19 3), (0, .methodref 19 23), (0, .nameAndType 24 25), (0, u "append"), (0, u "(Ljava/lang/String;)Ljava/lang/StringBuilder;"), (0, .string 27), (0, u " ["), (0, .string 29), (0, u "]: "), (0, .methodref 19 31), (0, .nameAndType 32 33), (0, u "toString"), (0, u "()Ljava/lang/String;"), (8, u "(Ljava/lang/String;Ljava/lang/String;Ljava/lang/String;)V")] 27

def k11c0 : Code := { maxStack := 2, maxLocals := 4, code := prog_13_method_1_code, exceptionTable := #[], attributes := #[] }
def k11m0 : Method := { name := "<init>", desc := "(Ljava/lang/String;Ljava/lang/String;Ljava/lang/String;)V", sig := { parameters := [(.object "java/lang/String"), (.object "java/lang/String"), (.object "java/lang/String")], returnType := none }, accessFlags := 1, code := some k11c0 }
def k11c1 : Code := { maxStack := 2, maxLocals := 1, code := prog_13_method_2_code, exceptionTable := #[], attributes := #[] }
def k11m1 : Method := { name := "toString", desc := "()Ljava/lang/String;", sig := { parameters := [], returnType := some (.object "java/lang/String") }, accessFlags := 1, code := some k11c1 }
/-- com/example/beanharness/beanharness/Finding -/
def k11 : Class := { plain "com/example/beanharness/beanharness/Finding" (some 10) with
  accessFlags := 49
  interfaces := #[]
  cf := some (fileOf pool11 8 #[] #[{ accessFlags := 1, nameIndex := 5, descriptorIndex := 42, attributes := #[] }, { accessFlags := 1, nameIndex := 32, descriptorIndex := 33, attributes := #[] }] 49 2 #[] #[{ accessFlags := 18, nameIndex := 11, descriptorIndex := 12, attributes := #[] }, { accessFlags := 18, nameIndex := 15, descriptorIndex := 12, attributes := #[] }, { accessFlags := 18, nameIndex := 18, descriptorIndex := 12, attributes := #[] }])
  fields := #[{ name := "property", type := (.object "java/lang/String"), accessFlags := 18, slot := 0, constantValue := 0 }, { name := "check", type := (.object "java/lang/String"), accessFlags := 18, slot := 1, constantValue := 0 }, { name := "message", type := (.object "java/lang/String"), accessFlags := 18, slot := 2, constantValue := 0 }]
  methods := #[k11m0, k11m1]
  instanceTypes := #[(.object "java/lang/String"), (.object "java/lang/String"), (.object "java/lang/String")]
  staticTypes := #[]
  resolved := Array.replicate 70 none
  statics := none }

def pool12 : Array CpInfo := pool [(1, .class_ 2), (0, u "java/lang/Appendable"), (0, .class_ 4), (0, u "java/lang/Object")] 9

/-- java/lang/Appendable -/
def k12 : Class := { plain "java/lang/Appendable" (some 0) with
  accessFlags := 1537
  interfaces := #[]
  cf := some (fileOf pool12 1 #[] #[] 1537 3 #[] #[])
  fields := #[]
  methods := #[]
  instanceTypes := #[]
  staticTypes := #[]
  resolved := Array.replicate 14 none
  statics := none }

def pool13 : Array CpInfo := pool [(1, .class_ 2), (0, u "java/lang/String"), (0, .methodref 4 5), (0, .class_ 6), (0, .nameAndType 7 8), (0, u "java/lang/Object"), (0, u "<init>"), (0, u "()V"), (1, .class_ 12), (1, u "java/lang/AbstractStringBuilder"), (0, u "EMPTYVALUE"), (0, u "[B"), (0, .fieldref 10 16), (0, .nameAndType 17 14), (0, u "value"), (0, .fieldref 1 19), (0, .nameAndType 20 21), (0, u "COMPACT_STRINGS"), (0, u "Z"), (0, .fieldref 10 23), (0, .nameAndType 24 25), (0, u "coder"), (0, u "B"), (6, .methodref 1 33), (0, .nameAndType 34 35), (0, u "length"), (0, u "()I"), (4, .methodref 1 41), (0, .nameAndType 24 42), (0, u "()B"), (2, u "append"), (0, u "(Ljava/lang/String;)Ljava/lang/AbstractStringBuilder;"), (1, .class_ 49), (0, u "java/lang/CharSequence"), (19, u "(Ljava/lang/String;)V"), (5, u "maybeLatin1"), (3, .fieldref 10 80), (0, .nameAndType 81 82), (0, u "count"), (0, u "I"), (2, u "isLatin1"), (0, u "()Z"), (13, .methodref 10 101), (0, .nameAndType 102 103), (0, u "ensureCapacityInternal"), (0, u "(I)V"), (104, .methodref 10 209), (0, .nameAndType 210 211), (0, u "putStringAt"), (0, u "(ILjava/lang/String;)V"), (5, u "inflateIfNeededFor"), (2, .nameAndType 221 222), (0, u "getBytes"), (0, u "([BIB)V"), (174, .methodref 10 398), (0, .nameAndType 217 69), (0, .methodref 1 220), (3, u "()[B"), (40, .class_ 445), (0, u "java/lang/Appendable"), (106, u "getValue")] 56

def k13m0 : Method := { name := "<init>", desc := "()V", sig := { parameters := [], returnType := none }, accessFlags := 0, code := none }
def k13c1 : Code := { maxStack := 2, maxLocals := 2, code := jdk_68_method_2_code, exceptionTable := #[], attributes := #[] }
def k13m1 : Method := { name := "<init>", desc := "(I)V", sig := { parameters := [.int], returnType := none }, accessFlags := 0, code := some k13c1 }
def k13c2 : Code := { maxStack := 1, maxLocals := 1, code := jdk_68_method_6_code, exceptionTable := #[], attributes := #[] }
def k13m2 : Method := { name := "length", desc := "()I", sig := { parameters := [], returnType := some .int }, accessFlags := 1, code := some k13c2 }
def k13c3 : Code := { maxStack := 4, maxLocals := 3, code := jdk_68_method_9_code, exceptionTable := #[], attributes := #[] }
def k13m3 : Method := { name := "ensureCapacityInternal", desc := "(I)V", sig := { parameters := [.int], returnType := none }, accessFlags := 2, code := some k13c3 }
def k13c4 : Code := { maxStack := 3, maxLocals := 3, code := jdk_68_method_22_code, exceptionTable := #[], attributes := #[] }
def k13m4 : Method := { name := "append", desc := "(Ljava/lang/String;)Ljava/lang/AbstractStringBuilder;", sig := { parameters := [(.object "java/lang/String")], returnType := some (.object "java/lang/AbstractStringBuilder") }, accessFlags := 1, code := some k13c4 }
def k13c5 : Code := { maxStack := 1, maxLocals := 1, code := jdk_68_method_64_code, exceptionTable := #[], attributes := #[] }
def k13m5 : Method := { name := "getValue", desc := "()[B", sig := { parameters := [], returnType := some (.array .byte) }, accessFlags := 16, code := some k13c5 }
def k13c6 : Code := { maxStack := 1, maxLocals := 1, code := jdk_68_method_68_code, exceptionTable := #[], attributes := #[] }
def k13m6 : Method := { name := "isLatin1", desc := "()Z", sig := { parameters := [], returnType := some .boolean }, accessFlags := 16, code := some k13c6 }
def k13c7 : Code := { maxStack := 2, maxLocals := 2, code := jdk_68_method_71_code, exceptionTable := #[], attributes := #[] }
def k13m7 : Method := { name := "inflateIfNeededFor", desc := "(Ljava/lang/String;)V", sig := { parameters := [(.object "java/lang/String")], returnType := none }, accessFlags := 2, code := some k13c7 }
def k13c8 : Code := { maxStack := 4, maxLocals := 3, code := jdk_68_method_73_code, exceptionTable := #[], attributes := #[] }
def k13m8 : Method := { name := "putStringAt", desc := "(ILjava/lang/String;)V", sig := { parameters := [.int, (.object "java/lang/String")], returnType := none }, accessFlags := 2, code := some k13c8 }
/-- java/lang/AbstractStringBuilder -/
def k13 : Class := { plain "java/lang/AbstractStringBuilder" (some 0) with
  accessFlags := 1056
  interfaces := #[12, 5]
  cf := some (fileOf pool13 10 #[] #[{ accessFlags := 0, nameIndex := 7, descriptorIndex := 8, attributes := #[] }, { accessFlags := 0, nameIndex := 7, descriptorIndex := 103, attributes := #[] }, { accessFlags := 1, nameIndex := 34, descriptorIndex := 35, attributes := #[] }, { accessFlags := 2, nameIndex := 102, descriptorIndex := 103, attributes := #[] }, { accessFlags := 1, nameIndex := 45, descriptorIndex := 46, attributes := #[] }, { accessFlags := 16, nameIndex := 552, descriptorIndex := 403, attributes := #[] }, { accessFlags := 16, nameIndex := 85, descriptorIndex := 86, attributes := #[] }, { accessFlags := 2, nameIndex := 217, descriptorIndex := 69, attributes := #[] }, { accessFlags := 2, nameIndex := 210, descriptorIndex := 211, attributes := #[] }] 1056 4 #[444, 48] #[{ accessFlags := 0, nameIndex := 17, descriptorIndex := 14, attributes := #[] }, { accessFlags := 0, nameIndex := 24, descriptorIndex := 25, attributes := #[] }, { accessFlags := 0, nameIndex := 75, descriptorIndex := 21, attributes := #[] }, { accessFlags := 0, nameIndex := 81, descriptorIndex := 82, attributes := #[] }, { accessFlags := 26, nameIndex := 13, descriptorIndex := 14, attributes := #[] }])
  fields := #[{ name := "value", type := (.array .byte), accessFlags := 0, slot := 0, constantValue := 0 }, { name := "coder", type := .byte, accessFlags := 0, slot := 1, constantValue := 0 }, { name := "maybeLatin1", type := .boolean, accessFlags := 0, slot := 2, constantValue := 0 }, { name := "count", type := .int, accessFlags := 0, slot := 3, constantValue := 0 }, { name := "EMPTYVALUE", type := (.array .byte), accessFlags := 26, slot := 0, constantValue := 0 }]
  methods := #[k13m0, k13m1, k13m2, k13m3, k13m4, k13m5, k13m6, k13m7, k13m8]
  instanceTypes := #[(.array .byte), .byte, .boolean, .int]
  staticTypes := #[(.array .byte)]
  resolved := Array.replicate 609 none
  statics := none }

def pool14 : Array CpInfo := pool [(1, .methodref 2 3), (0, .class_ 4), (0, .nameAndType 5 6), (0, u "java/lang/AbstractStringBuilder"), (0, u "<init>"), (0, u "(I)V"), (11, .class_ 20), (1, u "java/lang/String"), (3, .class_ 26), (1, u "java/lang/StringBuilder"), (0, u "append"), (0, u "(Ljava/lang/String;)Ljava/lang/StringBuilder;"), (0, .methodref 2 30), (0, .nameAndType 27 31), (0, u "(Ljava/lang/String;)Ljava/lang/AbstractStringBuilder;"), (105, .methodref 18 138), (0, .nameAndType 5 139), (0, u "(Ljava/lang/StringBuilder;)V"), (5, u "()V"), (10, u "()I"), (186, .methodref 2 344), (0, .nameAndType 345 156), (0, u "length"), (3, .class_ 350), (0, u "java/lang/Appendable"), (0, .class_ 352), (0, u "java/io/Serializable"), (0, .class_ 354), (0, u "java/lang/Comparable"), (0, .class_ 356), (0, u "java/lang/CharSequence"), (0, u "serialVersionUID"), (0, u "J"), (40, u "toString"), (0, u "()Ljava/lang/String;")] 21

def k14c0 : Code := { maxStack := 2, maxLocals := 1, code := jdk_67_method_1_code, exceptionTable := #[], attributes := #[] }
def k14m0 : Method := { name := "<init>", desc := "()V", sig := { parameters := [], returnType := none }, accessFlags := 1, code := some k14c0 }
def k14c1 : Code := { maxStack := 2, maxLocals := 2, code := jdk_67_method_7_code, exceptionTable := #[], attributes := #[] }
def k14m1 : Method := { name := "append", desc := "(Ljava/lang/String;)Ljava/lang/StringBuilder;", sig := { parameters := [(.object "java/lang/String")], returnType := some (.object "java/lang/StringBuilder") }, accessFlags := 1, code := some k14c1 }
def k14c2 : Code := { maxStack := 3, maxLocals := 1, code := jdk_67_method_42_code, exceptionTable := #[], attributes := #[] }
def k14m2 : Method := { name := "toString", desc := "()Ljava/lang/String;", sig := { parameters := [], returnType := some (.object "java/lang/String") }, accessFlags := 1, code := some k14c2 }
def k14c3 : Code := { maxStack := 1, maxLocals := 1, code := jdk_67_method_93_code, exceptionTable := #[], attributes := #[] }
def k14m3 : Method := { name := "length", desc := "()I", sig := { parameters := [], returnType := some .int }, accessFlags := 4161, code := some k14c3 }
/-- java/lang/StringBuilder -/
def k14 : Class := { plain "java/lang/StringBuilder" (some 13) with
  accessFlags := 49
  interfaces := #[12, 3, 4, 5]
  cf := some (fileOf pool14 24 #[] #[{ accessFlags := 1, nameIndex := 5, descriptorIndex := 145, attributes := #[] }, { accessFlags := 1, nameIndex := 27, descriptorIndex := 28, attributes := #[] }, { accessFlags := 1, nameIndex := 399, descriptorIndex := 400, attributes := #[] }, { accessFlags := 4161, nameIndex := 345, descriptorIndex := 156, attributes := #[] }] 49 2 #[349, 351, 353, 355] #[{ accessFlags := 24, nameIndex := 357, descriptorIndex := 358, attributes := #[] }])
  fields := #[{ name := "serialVersionUID", type := .long, accessFlags := 24, slot := 0, constantValue := 0 }]
  methods := #[k14m0, k14m1, k14m2, k14m3]
  instanceTypes := #[(.array .byte), .byte, .boolean, .int]
  staticTypes := #[.long]
  resolved := Array.replicate 422 none
  statics := none }

def pool15 : Array CpInfo := pool [(2, .class_ 4), (1, u "java/lang/Object"), (0, u "<init>"), (0, u "()V"), (1, .class_ 10), (1, u "java/lang/System"), (0, u "allowSecurityManager"), (0, u "I"), (16, u "cons"), (0, u "Ljava/io/Console;"), (77, .class_ 110), (1, u "java/lang/System$CallersHolder"), (43, u "initialErrStream"), (0, u "Ljava/io/PrintStream;"), (19, u "security"), (0, u "Ljava/lang/SecurityManager;"), (31, .class_ 209), (0, u "java/lang/System$1"), (7, u "props"), (0, u "Ljava/util/Properties;"), (2, u "lineSeparator"), (0, u "Ljava/lang/String;"), (96, .class_ 321), (1, u "java/lang/System$LoggerFinder"), (5, .class_ 328), (0, u "java/lang/System$Logger"), (67, u "err"), (2, u "out"), (91, u "notSupportedJnuEncoding"), (15, u "in"), (17, u "initialIn"), (0, u "Ljava/io/InputStream;"), (35, u "bootLayer"), (0, u "Ljava/lang/ModuleLayer;"), (99, .class_ 664), (0, u "java/lang/System$2"), (9, u "NEVER"), (2, u "MAYBE"), (49, u "arraycopy"), (0, u "(Ljava/lang/Object;ILjava/lang/Object;II)V"), (72, .class_ 802), (0, u "java/lang/System$Logger$Level")] 31

def k15m0 : Method := { name := "<init>", desc := "()V", sig := { parameters := [], returnType := none }, accessFlags := 2, code := none }
def k15m1 : Method := { name := "arraycopy", desc := "(Ljava/lang/Object;ILjava/lang/Object;II)V", sig := { parameters := [(.object "java/lang/Object"), .int, (.object "java/lang/Object"), .int, .int], returnType := none }, accessFlags := 265, code := none }
/-- java/lang/System -/
def k15 : Class := { plain "java/lang/System" (some 0) with
  accessFlags := 49
  interfaces := #[]
  cf := some (fileOf pool15 8 #[.nestMembers #[319, 327, 801, 108, 663, 208]] #[{ accessFlags := 2, nameIndex := 5, descriptorIndex := 6, attributes := #[] }, { accessFlags := 265, nameIndex := 727, descriptorIndex := 728, attributes := #[] }] 49 2 #[] #[{ accessFlags := 25, nameIndex := 507, descriptorIndex := 526, attributes := #[] }, { accessFlags := 25, nameIndex := 399, descriptorIndex := 155, attributes := #[] }, { accessFlags := 25, nameIndex := 396, descriptorIndex := 155, attributes := #[] }, { accessFlags := 10, nameIndex := 525, descriptorIndex := 526, attributes := #[] }, { accessFlags := 26, nameIndex := 674, descriptorIndex := 12, attributes := #[] }, { accessFlags := 26, nameIndex := 677, descriptorIndex := 12, attributes := #[] }, { accessFlags := 10, nameIndex := 11, descriptorIndex := 12, attributes := #[] }, { accessFlags := 74, nameIndex := 175, descriptorIndex := 176, attributes := #[] }, { accessFlags := 10, nameIndex := 491, descriptorIndex := 222, attributes := #[] }, { accessFlags := 74, nameIndex := 29, descriptorIndex := 30, attributes := #[] }, { accessFlags := 74, nameIndex := 154, descriptorIndex := 155, attributes := #[] }, { accessFlags := 10, nameIndex := 217, descriptorIndex := 218, attributes := #[] }, { accessFlags := 10, nameIndex := 221, descriptorIndex := 222, attributes := #[] }, { accessFlags := 8, nameIndex := 562, descriptorIndex := 563, attributes := #[] }])
  fields := #[{ name := "in", type := (.object "java/io/InputStream"), accessFlags := 25, slot := 0, constantValue := 0 }, { name := "out", type := (.object "java/io/PrintStream"), accessFlags := 25, slot := 1, constantValue := 0 }, { name := "err", type := (.object "java/io/PrintStream"), accessFlags := 25, slot := 2, constantValue := 0 }, { name := "initialIn", type := (.object "java/io/InputStream"), accessFlags := 10, slot := 3, constantValue := 0 }, { name := "NEVER", type := .int, accessFlags := 26, slot := 4, constantValue := 0 }, { name := "MAYBE", type := .int, accessFlags := 26, slot := 5, constantValue := 0 }, { name := "allowSecurityManager", type := .int, accessFlags := 10, slot := 6, constantValue := 0 }, { name := "security", type := (.object "java/lang/SecurityManager"), accessFlags := 74, slot := 7, constantValue := 0 }, { name := "notSupportedJnuEncoding", type := (.object "java/lang/String"), accessFlags := 10, slot := 8, constantValue := 0 }, { name := "cons", type := (.object "java/io/Console"), accessFlags := 74, slot := 9, constantValue := 0 }, { name := "initialErrStream", type := (.object "java/io/PrintStream"), accessFlags := 74, slot := 10, constantValue := 0 }, { name := "props", type := (.object "java/util/Properties"), accessFlags := 10, slot := 11, constantValue := 0 }, { name := "lineSeparator", type := (.object "java/lang/String"), accessFlags := 10, slot := 12, constantValue := 0 }, { name := "bootLayer", type := (.object "java/lang/ModuleLayer"), accessFlags := 8, slot := 13, constantValue := 0 }]
  methods := #[k15m0, k15m1]
  instanceTypes := #[]
  staticTypes := #[(.object "java/io/InputStream"), (.object "java/io/PrintStream"), (.object "java/io/PrintStream"), (.object "java/io/InputStream"), .int, .int, .int, (.object "java/lang/SecurityManager"), (.object "java/lang/String"), (.object "java/io/Console"), (.object "java/io/PrintStream"), (.object "java/util/Properties"), (.object "java/lang/String"), (.object "java/lang/ModuleLayer")]
  resolved := Array.replicate 834 none
  statics := none }

def pool16 : Array CpInfo := pool [(2, .class_ 4), (1, u "java/lang/Object"), (0, u "<init>"), (0, u "()V"), (7, .class_ 16), (1, u "java/util/Arrays"), (57, .class_ 76), (1, u "java/util/Arrays$NaturalOrder"), (36, .class_ 115), (1, u "java/util/Arrays$LegacyMergeSort"), (1, u "Z"), (21, u "copyOfRange"), (10, .methodref 151 152), (0, .class_ 153), (0, .nameAndType 154 155), (0, u "java/lang/System"), (0, u "arraycopy"), (0, u "(Ljava/lang/Object;ILjava/lang/Object;II)V"), (148, .methodref 305 306), (0, .class_ 307), (0, .nameAndType 308 309), (0, u "java/lang/Math"), (0, u "min"), (0, u "(II)I"), (29, .methodref 14 340), (0, .nameAndType 341 342), (0, u "copyOfRangeByte"), (0, u "([BII)[B"), (0, .methodref 14 344), (0, .nameAndType 345 346), (0, u "checkLength"), (0, u "(II)V"), (28, .class_ 376), (0, u "java/util/Arrays$ArrayList"), (68, u "$assertionsDisabled"), (269, u "MIN_ARRAY_SORT_GRAN"), (0, u "I"), (2, u "INSERTIONSORT_THRESHOLD"), (255, .class_ 976), (0, u "java/util/Arrays$ArrayItr")] 52

def k16m0 : Method := { name := "<init>", desc := "()V", sig := { parameters := [], returnType := none }, accessFlags := 2, code := none }
def k16c1 : Code := { maxStack := 4, maxLocals := 2, code := jdk_65_method_131_code, exceptionTable := #[], attributes := #[] }
def k16m1 : Method := { name := "checkLength", desc := "(II)V", sig := { parameters := [.int, .int], returnType := none }, accessFlags := 10, code := some k16c1 }
def k16c2 : Code := { maxStack := 3, maxLocals := 3, code := jdk_65_method_132_code, exceptionTable := #[], attributes := #[] }
def k16m2 : Method := { name := "copyOfRange", desc := "([BII)[B", sig := { parameters := [(.array .byte), .int, .int], returnType := some (.array .byte) }, accessFlags := 9, code := some k16c2 }
def k16c3 : Code := { maxStack := 6, maxLocals := 5, code := jdk_65_method_133_code, exceptionTable := #[], attributes := #[] }
def k16m3 : Method := { name := "copyOfRangeByte", desc := "([BII)[B", sig := { parameters := [(.array .byte), .int, .int], returnType := some (.array .byte) }, accessFlags := 10, code := some k16c3 }
/-- java/util/Arrays -/
def k16 : Class := { plain "java/util/Arrays" (some 0) with
  accessFlags := 49
  interfaces := #[]
  cf := some (fileOf pool16 14 #[.nestMembers #[975, 375, 113, 74]] #[{ accessFlags := 2, nameIndex := 5, descriptorIndex := 6, attributes := #[] }, { accessFlags := 10, nameIndex := 345, descriptorIndex := 346, attributes := #[] }, { accessFlags := 9, nameIndex := 139, descriptorIndex := 342, attributes := #[] }, { accessFlags := 10, nameIndex := 341, descriptorIndex := 342, attributes := #[] }] 49 2 #[] #[{ accessFlags := 26, nameIndex := 715, descriptorIndex := 716, attributes := #[] }, { accessFlags := 26, nameIndex := 719, descriptorIndex := 716, attributes := #[] }, { accessFlags := 4120, nameIndex := 445, descriptorIndex := 117, attributes := #[] }])
  fields := #[{ name := "MIN_ARRAY_SORT_GRAN", type := .int, accessFlags := 26, slot := 0, constantValue := 0 }, { name := "INSERTIONSORT_THRESHOLD", type := .int, accessFlags := 26, slot := 1, constantValue := 0 }, { name := "$assertionsDisabled", type := .boolean, accessFlags := 4120, slot := 2, constantValue := 0 }]
  methods := #[k16m0, k16m1, k16m2, k16m3]
  instanceTypes := #[]
  staticTypes := #[.int, .int, .boolean]
  resolved := Array.replicate 1029 none
  statics := none }

def pool17 : Array CpInfo := pool [(1, .class_ 2), (0, u "java/lang/String"), (1, .class_ 6), (1, u "java/lang/Object"), (0, u "<init>"), (0, u "()V"), (0, .methodref 1 10), (0, .nameAndType 11 12), (0, u "checkIndex"), (0, u "(II)V"), (1, .class_ 16), (1, u "java/lang/StringLatin1"), (36, u "([BI)C"), (67, u "$assertionsDisabled"), (0, u "Z"), (98, .class_ 223), (1, u "java/lang/StringLatin1$LinesSpliterator"), (28, u "charAt"), (137, .class_ 391), (0, u "java/lang/StringLatin1$CharsSpliterator")] 3

def k17m0 : Method := { name := "<init>", desc := "()V", sig := { parameters := [], returnType := none }, accessFlags := 0, code := none }
def k17c1 : Code := { maxStack := 2, maxLocals := 2, code := jdk_43_method_2_code, exceptionTable := #[], attributes := #[] }
def k17m1 : Method := { name := "charAt", desc := "([BI)C", sig := { parameters := [(.array .byte), .int], returnType := some .char }, accessFlags := 9, code := some k17c1 }
/-- java/lang/StringLatin1 -/
def k17 : Class := { plain "java/lang/StringLatin1" (some 0) with
  accessFlags := 48
  interfaces := #[]
  cf := some (fileOf pool17 14 #[.nestMembers #[390, 221]] #[{ accessFlags := 0, nameIndex := 7, descriptorIndex := 8, attributes := #[] }, { accessFlags := 9, nameIndex := 252, descriptorIndex := 53, attributes := #[] }] 48 4 #[] #[{ accessFlags := 4120, nameIndex := 121, descriptorIndex := 122, attributes := #[] }])
  fields := #[{ name := "$assertionsDisabled", type := .boolean, accessFlags := 4120, slot := 0, constantValue := 0 }]
  methods := #[k17m0, k17m1]
  instanceTypes := #[]
  staticTypes := #[.boolean]
  resolved := Array.replicate 395 none
  statics := none }

def pool18 : Array CpInfo := pool [(2, .class_ 4), (1, u "java/lang/Object"), (0, u "<init>"), (0, u "()V"), (17, .class_ 26), (1, u "jdk/internal/util/Preconditions"), (6, u "checkIndex"), (21, .class_ 56), (0, u "jdk/internal/util/Preconditions$4"), (57, .class_ 115), (0, u "jdk/internal/util/Preconditions$1"), (7, u "SIOOBE_FORMATTER"), (0, u "Ljava/util/function/BiFunction;"), (0, .class_ 126), (0, u "jdk/internal/util/Preconditions$2"), (3, u "AIOOBE_FORMATTER"), (0, .class_ 132), (0, u "jdk/internal/util/Preconditions$3"), (3, u "IOOBE_FORMATTER"), (41, u "(IILjava/util/function/BiFunction;)I")] 15

def k18m0 : Method := { name := "<init>", desc := "()V", sig := { parameters := [], returnType := none }, accessFlags := 1, code := none }
def k18c1 : Code := { maxStack := 3, maxLocals := 3, code := jdk_41_method_11_code, exceptionTable := #[], attributes := #[] }
def k18m1 : Method := { name := "checkIndex", desc := "(IILjava/util/function/BiFunction;)I", sig := { parameters := [.int, .int, (.object "java/util/function/BiFunction")], returnType := some .int }, accessFlags := 9, code := some k18c1 }
/-- jdk/internal/util/Preconditions -/
def k18 : Class := { plain "jdk/internal/util/Preconditions" (some 0) with
  accessFlags := 33
  interfaces := #[]
  cf := some (fileOf pool18 24 #[.nestMembers #[55, 131, 125, 114]] #[{ accessFlags := 1, nameIndex := 5, descriptorIndex := 6, attributes := #[] }, { accessFlags := 9, nameIndex := 33, descriptorIndex := 178, attributes := #[] }] 33 2 #[] #[{ accessFlags := 25, nameIndex := 123, descriptorIndex := 124, attributes := #[] }, { accessFlags := 25, nameIndex := 130, descriptorIndex := 124, attributes := #[] }, { accessFlags := 25, nameIndex := 136, descriptorIndex := 124, attributes := #[] }])
  fields := #[{ name := "SIOOBE_FORMATTER", type := (.object "java/util/function/BiFunction"), accessFlags := 25, slot := 0, constantValue := 0 }, { name := "AIOOBE_FORMATTER", type := (.object "java/util/function/BiFunction"), accessFlags := 25, slot := 1, constantValue := 0 }, { name := "IOOBE_FORMATTER", type := (.object "java/util/function/BiFunction"), accessFlags := 25, slot := 2, constantValue := 0 }]
  methods := #[k18m0, k18m1]
  instanceTypes := #[]
  staticTypes := #[(.object "java/util/function/BiFunction"), (.object "java/util/function/BiFunction"), (.object "java/util/function/BiFunction")]
  resolved := Array.replicate 194 none
  statics := some 1 }

def pool19 : Array CpInfo := pool [(9, u "<init>"), (6, .class_ 18), (1, u "java/lang/Object"), (0, u "()V"), (1, .class_ 23), (1, u "jdk/internal/util/ArraysSupport"), (0, u "LOG2_ARRAY_LONG_INDEX_SCALE"), (0, u "I"), (2, u "U"), (0, u "Ljdk/internal/misc/Unsafe;"), (8, u "BIG_ENDIAN"), (0, u "Z"), (8, u "LOG2_BYTE_BIT_SIZE"), (4, u "LOG2_ARRAY_INT_INDEX_SCALE"), (54, u "JLA"), (0, u "Ljdk/internal/access/JavaLangAccess;"), (11, u "LOG2_ARRAY_BOOLEAN_INDEX_SCALE"), (9, u "LOG2_ARRAY_BYTE_INDEX_SCALE"), (5, u "LOG2_ARRAY_CHAR_INDEX_SCALE"), (5, u "LOG2_ARRAY_SHORT_INDEX_SCALE"), (18, u "LOG2_ARRAY_FLOAT_INDEX_SCALE"), (24, u "LOG2_ARRAY_DOUBLE_INDEX_SCALE"), (89, u "T_BOOLEAN"), (2, u "T_CHAR"), (1, u "T_FLOAT"), (1, u "T_DOUBLE"), (1, u "T_BYTE"), (1, u "T_SHORT"), (1, u "T_INT"), (1, u "T_LONG"), (1, u "SOFT_MAX_ARRAY_LENGTH")] 83

def k19m0 : Method := { name := "<init>", desc := "()V", sig := { parameters := [], returnType := none }, accessFlags := 2, code := none }
/-- jdk/internal/util/ArraysSupport -/
def k19 : Class := { plain "jdk/internal/util/ArraysSupport" (some 0) with
  accessFlags := 33
  interfaces := #[]
  cf := some (fileOf pool19 21 #[] #[{ accessFlags := 2, nameIndex := 9, descriptorIndex := 19, attributes := #[] }] 33 16 #[] #[{ accessFlags := 24, nameIndex := 28, descriptorIndex := 29, attributes := #[] }, { accessFlags := 26, nameIndex := 38, descriptorIndex := 39, attributes := #[] }, { accessFlags := 25, nameIndex := 121, descriptorIndex := 25, attributes := #[] }, { accessFlags := 25, nameIndex := 131, descriptorIndex := 25, attributes := #[] }, { accessFlags := 25, nameIndex := 137, descriptorIndex := 25, attributes := #[] }, { accessFlags := 25, nameIndex := 143, descriptorIndex := 25, attributes := #[] }, { accessFlags := 25, nameIndex := 53, descriptorIndex := 25, attributes := #[] }, { accessFlags := 25, nameIndex := 24, descriptorIndex := 25, attributes := #[] }, { accessFlags := 25, nameIndex := 162, descriptorIndex := 25, attributes := #[] }, { accessFlags := 25, nameIndex := 187, descriptorIndex := 25, attributes := #[] }, { accessFlags := 26, nameIndex := 48, descriptorIndex := 25, attributes := #[] }, { accessFlags := 25, nameIndex := 277, descriptorIndex := 25, attributes := #[] }, { accessFlags := 25, nameIndex := 280, descriptorIndex := 25, attributes := #[] }, { accessFlags := 25, nameIndex := 282, descriptorIndex := 25, attributes := #[] }, { accessFlags := 25, nameIndex := 284, descriptorIndex := 25, attributes := #[] }, { accessFlags := 25, nameIndex := 286, descriptorIndex := 25, attributes := #[] }, { accessFlags := 25, nameIndex := 288, descriptorIndex := 25, attributes := #[] }, { accessFlags := 25, nameIndex := 290, descriptorIndex := 25, attributes := #[] }, { accessFlags := 25, nameIndex := 292, descriptorIndex := 25, attributes := #[] }, { accessFlags := 26, nameIndex := 108, descriptorIndex := 109, attributes := #[] }, { accessFlags := 25, nameIndex := 294, descriptorIndex := 25, attributes := #[] }])
  fields := #[{ name := "U", type := (.object "jdk/internal/misc/Unsafe"), accessFlags := 24, slot := 0, constantValue := 0 }, { name := "BIG_ENDIAN", type := .boolean, accessFlags := 26, slot := 1, constantValue := 0 }, { name := "LOG2_ARRAY_BOOLEAN_INDEX_SCALE", type := .int, accessFlags := 25, slot := 2, constantValue := 0 }, { name := "LOG2_ARRAY_BYTE_INDEX_SCALE", type := .int, accessFlags := 25, slot := 3, constantValue := 0 }, { name := "LOG2_ARRAY_CHAR_INDEX_SCALE", type := .int, accessFlags := 25, slot := 4, constantValue := 0 }, { name := "LOG2_ARRAY_SHORT_INDEX_SCALE", type := .int, accessFlags := 25, slot := 5, constantValue := 0 }, { name := "LOG2_ARRAY_INT_INDEX_SCALE", type := .int, accessFlags := 25, slot := 6, constantValue := 0 }, { name := "LOG2_ARRAY_LONG_INDEX_SCALE", type := .int, accessFlags := 25, slot := 7, constantValue := 0 }, { name := "LOG2_ARRAY_FLOAT_INDEX_SCALE", type := .int, accessFlags := 25, slot := 8, constantValue := 0 }, { name := "LOG2_ARRAY_DOUBLE_INDEX_SCALE", type := .int, accessFlags := 25, slot := 9, constantValue := 0 }, { name := "LOG2_BYTE_BIT_SIZE", type := .int, accessFlags := 26, slot := 10, constantValue := 0 }, { name := "T_BOOLEAN", type := .int, accessFlags := 25, slot := 11, constantValue := 0 }, { name := "T_CHAR", type := .int, accessFlags := 25, slot := 12, constantValue := 0 }, { name := "T_FLOAT", type := .int, accessFlags := 25, slot := 13, constantValue := 0 }, { name := "T_DOUBLE", type := .int, accessFlags := 25, slot := 14, constantValue := 0 }, { name := "T_BYTE", type := .int, accessFlags := 25, slot := 15, constantValue := 0 }, { name := "T_SHORT", type := .int, accessFlags := 25, slot := 16, constantValue := 0 }, { name := "T_INT", type := .int, accessFlags := 25, slot := 17, constantValue := 0 }, { name := "T_LONG", type := .int, accessFlags := 25, slot := 18, constantValue := 0 }, { name := "JLA", type := (.object "jdk/internal/access/JavaLangAccess"), accessFlags := 26, slot := 19, constantValue := 0 }, { name := "SOFT_MAX_ARRAY_LENGTH", type := .int, accessFlags := 25, slot := 20, constantValue := 0 }]
  methods := #[k19m0]
  instanceTypes := #[]
  staticTypes := #[(.object "jdk/internal/misc/Unsafe"), .boolean, .int, .int, .int, .int, .int, .int, .int, .int, .int, .int, .int, .int, .int, .int, .int, .int, .int, (.object "jdk/internal/access/JavaLangAccess"), .int]
  resolved := Array.replicate 378 none
  statics := none }

def pool20 : Array CpInfo := pool [(1, u "java/lang/Cloneable"), (0, .class_ 1), (0, u "java/lang/Object"), (0, .class_ 3)] 3

/-- java/lang/Cloneable -/
def k20 : Class := { plain "java/lang/Cloneable" (some 0) with
  accessFlags := 1537
  interfaces := #[]
  cf := some (fileOf pool20 2 #[] #[] 1537 4 #[] #[])
  fields := #[]
  methods := #[]
  instanceTypes := #[]
  staticTypes := #[]
  resolved := Array.replicate 8 none
  statics := none }

/-- the primitive byte -/
def k21 : Class := { plain "byte" none with kind := .primitive 'B', accessFlags := 0x411 }
/-- [B -/
def k22 : Class := { plain "[B" (some 0) with kind := .array 21 .byte, interfaces := #[20, 3], accessFlags := 1041 }

/-- the primitive char -/
def k23 : Class := { plain "char" none with kind := .primitive 'C', accessFlags := 0x411 }
/-- [C -/
def k24 : Class := { plain "[C" (some 0) with kind := .array 23 .char, interfaces := #[20, 3], accessFlags := 1041 }

/-- the primitive int -/
def k25 : Class := { plain "int" none with kind := .primitive 'I', accessFlags := 0x411 }
/-- [I -/
def k26 : Class := { plain "[I" (some 0) with kind := .array 25 .int, interfaces := #[20, 3], accessFlags := 1041 }

def heap : Heap := #[{ cls := 8, slots := #[.long 0, .int 1, .null, .int 0, .null, .int 0, .int 0], vm := .statics 8 },
  { cls := 18, slots := #[.null, .null, .null], vm := .statics 18 }]
def classes : Array Class := #[k0, k1, k2, k3, k4, k5, k6, k7, k8, k9, k10, k11, k12, k13, k14, k15, k16, k17, k18, k19, k20, k21, k22, k23, k24, k25, k26]
def interned : List (Array UInt16 × Addr) := []
def slotsUsed : Nat := 10
def theMethod : MethodId := ⟨1, 3⟩
def args0 : Array Value := #[.int 5, .int 3, .int 7, .int 9]
def aboutOver (below : List Frame) : State where
  vm := { classes := classes, interned := interned.toArray }
  heap := heap
  slotsUsed := slotsUsed
  threads := #[{ frames := .invoking theMethod args0 :: below }]
def below0 : List Frame := [.native { method := ⟨0, 0⟩, args := #[] }]
def about1 : State := aboutOver below0
def p0 : Program := .bare "" "" ""
def e0 : Env := launch0.env 0 0 0
theorem w_frames : about1.frames = Frame.invoking theMethod args0 :: below0 := rfl
set_option maxRecDepth 65536 in
theorem w_args : argsFit about1.vm theMethod args0 = true := by decide +kernel
set_option maxRecDepth 65536 in
theorem w_heap : heapFits about1 = true := by decide +kernel
set_option maxRecDepth 65536 in
theorem w_runnable : about1.curStatus? = some .runnable := by decide +kernel
set_option maxRecDepth 65536 in
theorem w_alone : about1.alone = true := by decide +kernel
set_option maxRecDepth 65536 in
theorem w_named : about1.methodNamed? x = some theMethod := by decide +kernel
set_option maxRecDepth 65536 in
theorem w_hears : about1.hears theMethod below0 = true := by decide +kernel
set_option maxRecDepth 65536 in
theorem w_ripe : about1.ripe theMethod args0 below0 = true := by decide +kernel
theorem w_running : about1.status = .running := rfl
set_option maxRecDepth 65536 in
theorem w_room : about1.hasRoom e0.platform room_1 = true :=
  launch0.hasRoom_least _ room_1 (by decide +kernel) (by decide +kernel) (by decide +kernel) (by decide +kernel) (by decide +kernel) (by decide +kernel)
theorem allAtoms_all (ts : List Jvm.Cond) (a : Array Jvm.Value) (st : Jvm.State) : (allAtoms ts).before a st = ts.all (fun c => c.before a st) := by
  induction ts with
  | nil => rfl
  | cons c t ih =>
    show (Jvm.Cond.and c (allAtoms t)).before a st = _
    rw [Jvm.Cond.before_and, ih, List.all_cons]
def words1 : List Jvm.Cond := Jvm.Cond.code x code maxLocals ret :: tables_1
/-- a 'code' word, met by the world's own term for the bytes: nothing is compared byte by byte -/
theorem code_word {y : MethodName} {bytes : ByteArray} {mx : Nat} {rt : Option FieldType} {a : Array Value} {s : State} {m : MethodId} {meth : Method} {c : Code} (h1 : s.methodNamed? y = some m) (h2 : s.vm.method? m = some meth) (h3 : meth.code = some c) (h4 : c.code = bytes)
    (h5 : (c.maxLocals == mx && c.exceptionTable.isEmpty && decide (c.maxStack ≤ mostOperands) && decide (meth.sig.returnType = rt) && !meth.locks && decide (parseMethodDescriptor y.desc = some meth.sig)) = true) : (Jvm.Cond.code y bytes mx rt).before a s = true := by
  simp only [Bool.and_eq_true, beq_iff_eq, Bool.not_eq_true', decide_eq_true_eq] at h5
  obtain ⟨⟨⟨⟨⟨g1, g2⟩, g3⟩, g4⟩, g5⟩, g6⟩ := h5
  simp [Cond.before, Cond.holds, Cond.value, h1, h2, h3, h4, g1, g2, g3, g4, g5, g6]
def isCode : Jvm.Cond → Bool
  | .code _ _ _ _ => true
  | _ => false
theorem all_split {L : List Jvm.Cond} {P : Jvm.Cond → Bool} (h1 : L.all (fun c => isCode c || P c) = true) (h2 : ∀ c ∈ L.filter isCode, P c = true) : L.all P = true := by
  refine List.all_eq_true.mpr fun c hc => ?_
  have h := List.all_eq_true.mp h1 c hc
  rcases Bool.eq_false_or_eq_true (isCode c) with hi | hi
  · exact h2 c (List.mem_filter.mpr ⟨hc, hi⟩)
  · simpa [hi] using h
set_option maxRecDepth 65536 in
theorem w_c0 : (Jvm.Cond.code x code maxLocals ret).before args0 about1 = true := code_word (m := ⟨1, 3⟩) (meth := k1m3) (c := k1c3) (by decide +kernel) rfl rfl rfl (by decide +kernel)
set_option maxRecDepth 65536 in
theorem w_c1 : (Jvm.Cond.code ({ cls := "java/lang/Math", name := "min", desc := "(II)I" } : Jvm.MethodName) jdk_29_method_69_code (2 : Nat) (Option.some Jvm.ClassFile.FieldType.int)).before args0 about1 = true := code_word (m := ⟨2, 1⟩) (meth := k2m1) (c := k2c1) (by decide +kernel) rfl rfl rfl (by decide +kernel)
set_option maxRecDepth 65536 in
theorem w_c2 : (Jvm.Cond.code ({ cls := "com/example/beanharness/beanharness/FindingToStringPinLaw", name := "mk", desc := "(II)Ljava/lang/String;" } : Jvm.MethodName) method_2_code (3 : Nat) (Option.some (Jvm.ClassFile.FieldType.object "java/lang/String"))).before args0 about1 = true := code_word (m := ⟨1, 1⟩) (meth := k1m1) (c := k1c1) (by decide +kernel) rfl rfl rfl (by decide +kernel)
set_option maxRecDepth 65536 in
theorem w_c3 : (Jvm.Cond.code ({ cls := "java/lang/String", name := "<init>", desc := "([C)V" } : Jvm.MethodName) jdk_42_method_3_code (2 : Nat) (Option.none : Option Jvm.ClassFile.FieldType)).before args0 about1 = true := code_word (m := ⟨8, 1⟩) (meth := k8m1) (c := k8c1) (by decide +kernel) rfl rfl rfl (by decide +kernel)
set_option maxRecDepth 65536 in
theorem w_c4 : (Jvm.Cond.code ({ cls := "java/lang/String", name := "<init>", desc := "([CIILjava/lang/Void;)V" } : Jvm.MethodName) jdk_42_method_149_code (6 : Nat) (Option.none : Option Jvm.ClassFile.FieldType)).before args0 about1 = true := code_word (m := ⟨8, 6⟩) (meth := k8m6) (c := k8c6) (by decide +kernel) rfl rfl rfl (by decide +kernel)
set_option maxRecDepth 65536 in
theorem w_c5 : (Jvm.Cond.code ({ cls := "java/lang/Object", name := "<init>", desc := "()V" } : Jvm.MethodName) object_method_1_code (1 : Nat) (Option.none : Option Jvm.ClassFile.FieldType)).before args0 about1 = true := code_word (m := ⟨0, 0⟩) (meth := k0m0) (c := k0c0) (by decide +kernel) rfl rfl rfl (by decide +kernel)
set_option maxRecDepth 65536 in
theorem w_c6 : (Jvm.Cond.code ({ cls := "java/lang/StringUTF16", name := "compress", desc := "([CII)[B" } : Jvm.MethodName) jdk_52_method_16_code (6 : Nat) (Option.some (Jvm.ClassFile.FieldType.array Jvm.ClassFile.FieldType.byte))).before args0 about1 = true := code_word (m := ⟨9, 2⟩) (meth := k9m2) (c := k9c2) (by decide +kernel) rfl rfl rfl (by decide +kernel)
set_option maxRecDepth 65536 in
theorem w_c7 : (Jvm.Cond.code ({ cls := "java/lang/StringUTF16", name := "compress", desc := "([CI[BII)I" } : Jvm.MethodName) jdk_52_method_21_code (7 : Nat) (Option.some Jvm.ClassFile.FieldType.int)).before args0 about1 = true := code_word (m := ⟨9, 3⟩) (meth := k9m3) (c := k9c3) (by decide +kernel) rfl rfl rfl (by decide +kernel)
set_option maxRecDepth 65536 in
theorem w_c8 : (Jvm.Cond.code ({ cls := "java/lang/StringUTF16", name := "coderFromArrayLen", desc := "([BI)B" } : Jvm.MethodName) jdk_52_method_15_code (2 : Nat) (Option.some Jvm.ClassFile.FieldType.byte)).before args0 about1 = true := code_word (m := ⟨9, 1⟩) (meth := k9m1) (c := k9c1) (by decide +kernel) rfl rfl rfl (by decide +kernel)
set_option maxRecDepth 65536 in
theorem w_c9 : (Jvm.Cond.code ({ cls := "com/example/beanharness/beanharness/Finding", name := "<init>", desc := "(Ljava/lang/String;Ljava/lang/String;Ljava/lang/String;)V" } : Jvm.MethodName) prog_13_method_1_code (4 : Nat) (Option.none : Option Jvm.ClassFile.FieldType)).before args0 about1 = true := code_word (m := ⟨11, 0⟩) (meth := k11m0) (c := k11c0) (by decide +kernel) rfl rfl rfl (by decide +kernel)
set_option maxRecDepth 65536 in
theorem w_c10 : (Jvm.Cond.code ({ cls := "java/lang/Record", name := "<init>", desc := "()V" } : Jvm.MethodName) jdk_30_method_1_code (1 : Nat) (Option.none : Option Jvm.ClassFile.FieldType)).before args0 about1 = true := code_word (m := ⟨10, 0⟩) (meth := k10m0) (c := k10c0) (by decide +kernel) rfl rfl rfl (by decide +kernel)
set_option maxRecDepth 65536 in
theorem w_c11 : (Jvm.Cond.code ({ cls := "com/example/beanharness/beanharness/Finding", name := "toString", desc := "()Ljava/lang/String;" } : Jvm.MethodName) prog_13_method_2_code (1 : Nat) (Option.some (Jvm.ClassFile.FieldType.object "java/lang/String"))).before args0 about1 = true := code_word (m := ⟨11, 1⟩) (meth := k11m1) (c := k11c1) (by decide +kernel) rfl rfl rfl (by decide +kernel)
set_option maxRecDepth 65536 in
theorem w_c12 : (Jvm.Cond.code ({ cls := "java/lang/StringBuilder", name := "<init>", desc := "()V" } : Jvm.MethodName) jdk_67_method_1_code (1 : Nat) (Option.none : Option Jvm.ClassFile.FieldType)).before args0 about1 = true := code_word (m := ⟨14, 0⟩) (meth := k14m0) (c := k14c0) (by decide +kernel) rfl rfl rfl (by decide +kernel)
set_option maxRecDepth 65536 in
theorem w_c13 : (Jvm.Cond.code ({ cls := "java/lang/AbstractStringBuilder", name := "<init>", desc := "(I)V" } : Jvm.MethodName) jdk_68_method_2_code (2 : Nat) (Option.none : Option Jvm.ClassFile.FieldType)).before args0 about1 = true := code_word (m := ⟨13, 1⟩) (meth := k13m1) (c := k13c1) (by decide +kernel) rfl rfl rfl (by decide +kernel)
set_option maxRecDepth 65536 in
theorem w_c14 : (Jvm.Cond.code ({ cls := "java/lang/StringBuilder", name := "append", desc := "(Ljava/lang/String;)Ljava/lang/StringBuilder;" } : Jvm.MethodName) jdk_67_method_7_code (2 : Nat) (Option.some (Jvm.ClassFile.FieldType.object "java/lang/StringBuilder"))).before args0 about1 = true := code_word (m := ⟨14, 1⟩) (meth := k14m1) (c := k14c1) (by decide +kernel) rfl rfl rfl (by decide +kernel)
set_option maxRecDepth 65536 in
theorem w_c15 : (Jvm.Cond.code ({ cls := "java/lang/AbstractStringBuilder", name := "append", desc := "(Ljava/lang/String;)Ljava/lang/AbstractStringBuilder;" } : Jvm.MethodName) jdk_68_method_22_code (3 : Nat) (Option.some (Jvm.ClassFile.FieldType.object "java/lang/AbstractStringBuilder"))).before args0 about1 = true := code_word (m := ⟨13, 4⟩) (meth := k13m4) (c := k13c4) (by decide +kernel) rfl rfl rfl (by decide +kernel)
set_option maxRecDepth 65536 in
theorem w_c16 : (Jvm.Cond.code ({ cls := "java/lang/String", name := "length", desc := "()I" } : Jvm.MethodName) jdk_42_method_54_code (1 : Nat) (Option.some Jvm.ClassFile.FieldType.int)).before args0 about1 = true := code_word (m := ⟨8, 3⟩) (meth := k8m3) (c := k8c3) (by decide +kernel) rfl rfl rfl (by decide +kernel)
set_option maxRecDepth 65536 in
theorem w_c17 : (Jvm.Cond.code ({ cls := "java/lang/String", name := "coder", desc := "()B" } : Jvm.MethodName) jdk_42_method_152_code (1 : Nat) (Option.some Jvm.ClassFile.FieldType.byte)).before args0 about1 = true := code_word (m := ⟨8, 8⟩) (meth := k8m8) (c := k8c8) (by decide +kernel) rfl rfl rfl (by decide +kernel)
set_option maxRecDepth 65536 in
theorem w_c18 : (Jvm.Cond.code ({ cls := "java/lang/AbstractStringBuilder", name := "ensureCapacityInternal", desc := "(I)V" } : Jvm.MethodName) jdk_68_method_9_code (3 : Nat) (Option.none : Option Jvm.ClassFile.FieldType)).before args0 about1 = true := code_word (m := ⟨13, 3⟩) (meth := k13m3) (c := k13c3) (by decide +kernel) rfl rfl rfl (by decide +kernel)
set_option maxRecDepth 65536 in
theorem w_c19 : (Jvm.Cond.code ({ cls := "java/lang/AbstractStringBuilder", name := "putStringAt", desc := "(ILjava/lang/String;)V" } : Jvm.MethodName) jdk_68_method_73_code (3 : Nat) (Option.none : Option Jvm.ClassFile.FieldType)).before args0 about1 = true := code_word (m := ⟨13, 8⟩) (meth := k13m8) (c := k13c8) (by decide +kernel) rfl rfl rfl (by decide +kernel)
set_option maxRecDepth 65536 in
theorem w_c20 : (Jvm.Cond.code ({ cls := "java/lang/AbstractStringBuilder", name := "inflateIfNeededFor", desc := "(Ljava/lang/String;)V" } : Jvm.MethodName) jdk_68_method_71_code (2 : Nat) (Option.none : Option Jvm.ClassFile.FieldType)).before args0 about1 = true := code_word (m := ⟨13, 7⟩) (meth := k13m7) (c := k13c7) (by decide +kernel) rfl rfl rfl (by decide +kernel)
set_option maxRecDepth 65536 in
theorem w_c21 : (Jvm.Cond.code ({ cls := "java/lang/String", name := "getBytes", desc := "([BIB)V" } : Jvm.MethodName) jdk_42_method_147_code (4 : Nat) (Option.none : Option Jvm.ClassFile.FieldType)).before args0 about1 = true := code_word (m := ⟨8, 5⟩) (meth := k8m5) (c := k8c5) (by decide +kernel) rfl rfl rfl (by decide +kernel)
set_option maxRecDepth 65536 in
theorem w_c22 : (Jvm.Cond.code ({ cls := "java/lang/StringBuilder", name := "toString", desc := "()Ljava/lang/String;" } : Jvm.MethodName) jdk_67_method_42_code (1 : Nat) (Option.some (Jvm.ClassFile.FieldType.object "java/lang/String"))).before args0 about1 = true := code_word (m := ⟨14, 2⟩) (meth := k14m2) (c := k14c2) (by decide +kernel) rfl rfl rfl (by decide +kernel)
set_option maxRecDepth 65536 in
theorem w_c23 : (Jvm.Cond.code ({ cls := "java/lang/String", name := "<init>", desc := "(Ljava/lang/StringBuilder;)V" } : Jvm.MethodName) jdk_42_method_53_code (2 : Nat) (Option.none : Option Jvm.ClassFile.FieldType)).before args0 about1 = true := code_word (m := ⟨8, 2⟩) (meth := k8m2) (c := k8c2) (by decide +kernel) rfl rfl rfl (by decide +kernel)
set_option maxRecDepth 65536 in
theorem w_c24 : (Jvm.Cond.code ({ cls := "java/lang/String", name := "<init>", desc := "(Ljava/lang/AbstractStringBuilder;Ljava/lang/Void;)V" } : Jvm.MethodName) jdk_42_method_150_code (5 : Nat) (Option.none : Option Jvm.ClassFile.FieldType)).before args0 about1 = true := code_word (m := ⟨8, 7⟩) (meth := k8m7) (c := k8c7) (by decide +kernel) rfl rfl rfl (by decide +kernel)
set_option maxRecDepth 65536 in
theorem w_c25 : (Jvm.Cond.code ({ cls := "java/lang/AbstractStringBuilder", name := "getValue", desc := "()[B" } : Jvm.MethodName) jdk_68_method_64_code (1 : Nat) (Option.some (Jvm.ClassFile.FieldType.array Jvm.ClassFile.FieldType.byte))).before args0 about1 = true := code_word (m := ⟨13, 5⟩) (meth := k13m5) (c := k13c5) (by decide +kernel) rfl rfl rfl (by decide +kernel)
set_option maxRecDepth 65536 in
theorem w_c26 : (Jvm.Cond.code ({ cls := "java/lang/StringBuilder", name := "length", desc := "()I" } : Jvm.MethodName) jdk_67_method_93_code (1 : Nat) (Option.some Jvm.ClassFile.FieldType.int)).before args0 about1 = true := code_word (m := ⟨14, 3⟩) (meth := k14m3) (c := k14c3) (by decide +kernel) rfl rfl rfl (by decide +kernel)
set_option maxRecDepth 65536 in
theorem w_c27 : (Jvm.Cond.code ({ cls := "java/lang/AbstractStringBuilder", name := "length", desc := "()I" } : Jvm.MethodName) jdk_68_method_6_code (1 : Nat) (Option.some Jvm.ClassFile.FieldType.int)).before args0 about1 = true := code_word (m := ⟨13, 2⟩) (meth := k13m2) (c := k13c2) (by decide +kernel) rfl rfl rfl (by decide +kernel)
set_option maxRecDepth 65536 in
theorem w_c28 : (Jvm.Cond.code ({ cls := "java/lang/AbstractStringBuilder", name := "isLatin1", desc := "()Z" } : Jvm.MethodName) jdk_68_method_68_code (1 : Nat) (Option.some Jvm.ClassFile.FieldType.boolean)).before args0 about1 = true := code_word (m := ⟨13, 6⟩) (meth := k13m6) (c := k13c6) (by decide +kernel) rfl rfl rfl (by decide +kernel)
set_option maxRecDepth 65536 in
theorem w_c29 : (Jvm.Cond.code ({ cls := "java/util/Arrays", name := "copyOfRange", desc := "([BII)[B" } : Jvm.MethodName) jdk_65_method_132_code (3 : Nat) (Option.some (Jvm.ClassFile.FieldType.array Jvm.ClassFile.FieldType.byte))).before args0 about1 = true := code_word (m := ⟨16, 2⟩) (meth := k16m2) (c := k16c2) (by decide +kernel) rfl rfl rfl (by decide +kernel)
set_option maxRecDepth 65536 in
theorem w_c30 : (Jvm.Cond.code ({ cls := "java/util/Arrays", name := "copyOfRangeByte", desc := "([BII)[B" } : Jvm.MethodName) jdk_65_method_133_code (5 : Nat) (Option.some (Jvm.ClassFile.FieldType.array Jvm.ClassFile.FieldType.byte))).before args0 about1 = true := code_word (m := ⟨16, 3⟩) (meth := k16m3) (c := k16c3) (by decide +kernel) rfl rfl rfl (by decide +kernel)
set_option maxRecDepth 65536 in
theorem w_c31 : (Jvm.Cond.code ({ cls := "java/util/Arrays", name := "checkLength", desc := "(II)V" } : Jvm.MethodName) jdk_65_method_131_code (2 : Nat) (Option.none : Option Jvm.ClassFile.FieldType)).before args0 about1 = true := code_word (m := ⟨16, 1⟩) (meth := k16m1) (c := k16c1) (by decide +kernel) rfl rfl rfl (by decide +kernel)
set_option maxRecDepth 65536 in
theorem w_c32 : (Jvm.Cond.code ({ cls := "com/example/beanharness/beanharness/FindingToStringPinLaw", name := "at", desc := "(Ljava/lang/String;[CII)Z" } : Jvm.MethodName) method_3_code (4 : Nat) (Option.some Jvm.ClassFile.FieldType.boolean)).before args0 about1 = true := code_word (m := ⟨1, 2⟩) (meth := k1m2) (c := k1c2) (by decide +kernel) rfl rfl rfl (by decide +kernel)
set_option maxRecDepth 65536 in
theorem w_c33 : (Jvm.Cond.code ({ cls := "java/lang/String", name := "charAt", desc := "(I)C" } : Jvm.MethodName) jdk_42_method_56_code (2 : Nat) (Option.some Jvm.ClassFile.FieldType.char)).before args0 about1 = true := code_word (m := ⟨8, 4⟩) (meth := k8m4) (c := k8c4) (by decide +kernel) rfl rfl rfl (by decide +kernel)
set_option maxRecDepth 65536 in
theorem w_c34 : (Jvm.Cond.code ({ cls := "java/lang/String", name := "isLatin1", desc := "()Z" } : Jvm.MethodName) jdk_42_method_154_code (1 : Nat) (Option.some Jvm.ClassFile.FieldType.boolean)).before args0 about1 = true := code_word (m := ⟨8, 9⟩) (meth := k8m9) (c := k8c9) (by decide +kernel) rfl rfl rfl (by decide +kernel)
set_option maxRecDepth 65536 in
theorem w_c35 : (Jvm.Cond.code ({ cls := "java/lang/StringLatin1", name := "charAt", desc := "([BI)C" } : Jvm.MethodName) jdk_43_method_2_code (2 : Nat) (Option.some Jvm.ClassFile.FieldType.char)).before args0 about1 = true := code_word (m := ⟨17, 1⟩) (meth := k17m1) (c := k17c1) (by decide +kernel) rfl rfl rfl (by decide +kernel)
set_option maxRecDepth 65536 in
theorem w_c36 : (Jvm.Cond.code ({ cls := "java/lang/String", name := "checkIndex", desc := "(II)V" } : Jvm.MethodName) jdk_42_method_155_code (2 : Nat) (Option.none : Option Jvm.ClassFile.FieldType)).before args0 about1 = true := code_word (m := ⟨8, 10⟩) (meth := k8m10) (c := k8c10) (by decide +kernel) rfl rfl rfl (by decide +kernel)
set_option maxRecDepth 65536 in
theorem w_c37 : (Jvm.Cond.code ({ cls := "jdk/internal/util/Preconditions", name := "checkIndex", desc := "(IILjava/util/function/BiFunction;)I" } : Jvm.MethodName) jdk_41_method_11_code (3 : Nat) (Option.some Jvm.ClassFile.FieldType.int)).before args0 about1 = true := code_word (m := ⟨18, 1⟩) (meth := k18m1) (c := k18c1) (by decide +kernel) rfl rfl rfl (by decide +kernel)
def codes1 : List Jvm.Cond := [Jvm.Cond.code x code maxLocals ret, Jvm.Cond.code ({ cls := "java/lang/Math", name := "min", desc := "(II)I" } : Jvm.MethodName) jdk_29_method_69_code (2 : Nat) (Option.some Jvm.ClassFile.FieldType.int), Jvm.Cond.code ({ cls := "com/example/beanharness/beanharness/FindingToStringPinLaw", name := "mk", desc := "(II)Ljava/lang/String;" } : Jvm.MethodName) method_2_code (3 : Nat) (Option.some (Jvm.ClassFile.FieldType.object "java/lang/String")), Jvm.Cond.code ({ cls := "java/lang/String", name := "<init>", desc := "([C)V" } : Jvm.MethodName) jdk_42_method_3_code (2 : Nat) (Option.none : Option Jvm.ClassFile.FieldType), Jvm.Cond.code ({ cls := "java/lang/String", name := "<init>", desc := "([CIILjava/lang/Void;)V" } : Jvm.MethodName) jdk_42_method_149_code (6 : Nat) (Option.none : Option Jvm.ClassFile.FieldType), Jvm.Cond.code ({ cls := "java/lang/Object", name := "<init>", desc := "()V" } : Jvm.MethodName) object_method_1_code (1 : Nat) (Option.none : Option Jvm.ClassFile.FieldType), Jvm.Cond.code ({ cls := "java/lang/StringUTF16", name := "compress", desc := "([CII)[B" } : Jvm.MethodName) jdk_52_method_16_code (6 : Nat) (Option.some (Jvm.ClassFile.FieldType.array Jvm.ClassFile.FieldType.byte)), Jvm.Cond.code ({ cls := "java/lang/StringUTF16", name := "compress", desc := "([CI[BII)I" } : Jvm.MethodName) jdk_52_method_21_code (7 : Nat) (Option.some Jvm.ClassFile.FieldType.int), Jvm.Cond.code ({ cls := "java/lang/StringUTF16", name := "coderFromArrayLen", desc := "([BI)B" } : Jvm.MethodName) jdk_52_method_15_code (2 : Nat) (Option.some Jvm.ClassFile.FieldType.byte), Jvm.Cond.code ({ cls := "com/example/beanharness/beanharness/Finding", name := "<init>", desc := "(Ljava/lang/String;Ljava/lang/String;Ljava/lang/String;)V" } : Jvm.MethodName) prog_13_method_1_code (4 : Nat) (Option.none : Option Jvm.ClassFile.FieldType), Jvm.Cond.code ({ cls := "java/lang/Record", name := "<init>", desc := "()V" } : Jvm.MethodName) jdk_30_method_1_code (1 : Nat) (Option.none : Option Jvm.ClassFile.FieldType), Jvm.Cond.code ({ cls := "com/example/beanharness/beanharness/Finding", name := "toString", desc := "()Ljava/lang/String;" } : Jvm.MethodName) prog_13_method_2_code (1 : Nat) (Option.some (Jvm.ClassFile.FieldType.object "java/lang/String")), Jvm.Cond.code ({ cls := "java/lang/StringBuilder", name := "<init>", desc := "()V" } : Jvm.MethodName) jdk_67_method_1_code (1 : Nat) (Option.none : Option Jvm.ClassFile.FieldType), Jvm.Cond.code ({ cls := "java/lang/AbstractStringBuilder", name := "<init>", desc := "(I)V" } : Jvm.MethodName) jdk_68_method_2_code (2 : Nat) (Option.none : Option Jvm.ClassFile.FieldType), Jvm.Cond.code ({ cls := "java/lang/StringBuilder", name := "append", desc := "(Ljava/lang/String;)Ljava/lang/StringBuilder;" } : Jvm.MethodName) jdk_67_method_7_code (2 : Nat) (Option.some (Jvm.ClassFile.FieldType.object "java/lang/StringBuilder")), Jvm.Cond.code ({ cls := "java/lang/AbstractStringBuilder", name := "append", desc := "(Ljava/lang/String;)Ljava/lang/AbstractStringBuilder;" } : Jvm.MethodName) jdk_68_method_22_code (3 : Nat) (Option.some (Jvm.ClassFile.FieldType.object "java/lang/AbstractStringBuilder")), Jvm.Cond.code ({ cls := "java/lang/String", name := "length", desc := "()I" } : Jvm.MethodName) jdk_42_method_54_code (1 : Nat) (Option.some Jvm.ClassFile.FieldType.int), Jvm.Cond.code ({ cls := "java/lang/String", name := "coder", desc := "()B" } : Jvm.MethodName) jdk_42_method_152_code (1 : Nat) (Option.some Jvm.ClassFile.FieldType.byte), Jvm.Cond.code ({ cls := "java/lang/AbstractStringBuilder", name := "ensureCapacityInternal", desc := "(I)V" } : Jvm.MethodName) jdk_68_method_9_code (3 : Nat) (Option.none : Option Jvm.ClassFile.FieldType), Jvm.Cond.code ({ cls := "java/lang/AbstractStringBuilder", name := "putStringAt", desc := "(ILjava/lang/String;)V" } : Jvm.MethodName) jdk_68_method_73_code (3 : Nat) (Option.none : Option Jvm.ClassFile.FieldType), Jvm.Cond.code ({ cls := "java/lang/AbstractStringBuilder", name := "inflateIfNeededFor", desc := "(Ljava/lang/String;)V" } : Jvm.MethodName) jdk_68_method_71_code (2 : Nat) (Option.none : Option Jvm.ClassFile.FieldType), Jvm.Cond.code ({ cls := "java/lang/String", name := "getBytes", desc := "([BIB)V" } : Jvm.MethodName) jdk_42_method_147_code (4 : Nat) (Option.none : Option Jvm.ClassFile.FieldType), Jvm.Cond.code ({ cls := "java/lang/StringBuilder", name := "toString", desc := "()Ljava/lang/String;" } : Jvm.MethodName) jdk_67_method_42_code (1 : Nat) (Option.some (Jvm.ClassFile.FieldType.object "java/lang/String")), Jvm.Cond.code ({ cls := "java/lang/String", name := "<init>", desc := "(Ljava/lang/StringBuilder;)V" } : Jvm.MethodName) jdk_42_method_53_code (2 : Nat) (Option.none : Option Jvm.ClassFile.FieldType), Jvm.Cond.code ({ cls := "java/lang/String", name := "<init>", desc := "(Ljava/lang/AbstractStringBuilder;Ljava/lang/Void;)V" } : Jvm.MethodName) jdk_42_method_150_code (5 : Nat) (Option.none : Option Jvm.ClassFile.FieldType), Jvm.Cond.code ({ cls := "java/lang/AbstractStringBuilder", name := "getValue", desc := "()[B" } : Jvm.MethodName) jdk_68_method_64_code (1 : Nat) (Option.some (Jvm.ClassFile.FieldType.array Jvm.ClassFile.FieldType.byte)), Jvm.Cond.code ({ cls := "java/lang/StringBuilder", name := "length", desc := "()I" } : Jvm.MethodName) jdk_67_method_93_code (1 : Nat) (Option.some Jvm.ClassFile.FieldType.int), Jvm.Cond.code ({ cls := "java/lang/AbstractStringBuilder", name := "length", desc := "()I" } : Jvm.MethodName) jdk_68_method_6_code (1 : Nat) (Option.some Jvm.ClassFile.FieldType.int), Jvm.Cond.code ({ cls := "java/lang/AbstractStringBuilder", name := "isLatin1", desc := "()Z" } : Jvm.MethodName) jdk_68_method_68_code (1 : Nat) (Option.some Jvm.ClassFile.FieldType.boolean), Jvm.Cond.code ({ cls := "java/util/Arrays", name := "copyOfRange", desc := "([BII)[B" } : Jvm.MethodName) jdk_65_method_132_code (3 : Nat) (Option.some (Jvm.ClassFile.FieldType.array Jvm.ClassFile.FieldType.byte)), Jvm.Cond.code ({ cls := "java/util/Arrays", name := "copyOfRangeByte", desc := "([BII)[B" } : Jvm.MethodName) jdk_65_method_133_code (5 : Nat) (Option.some (Jvm.ClassFile.FieldType.array Jvm.ClassFile.FieldType.byte)), Jvm.Cond.code ({ cls := "java/util/Arrays", name := "checkLength", desc := "(II)V" } : Jvm.MethodName) jdk_65_method_131_code (2 : Nat) (Option.none : Option Jvm.ClassFile.FieldType), Jvm.Cond.code ({ cls := "com/example/beanharness/beanharness/FindingToStringPinLaw", name := "at", desc := "(Ljava/lang/String;[CII)Z" } : Jvm.MethodName) method_3_code (4 : Nat) (Option.some Jvm.ClassFile.FieldType.boolean), Jvm.Cond.code ({ cls := "java/lang/String", name := "charAt", desc := "(I)C" } : Jvm.MethodName) jdk_42_method_56_code (2 : Nat) (Option.some Jvm.ClassFile.FieldType.char), Jvm.Cond.code ({ cls := "java/lang/String", name := "isLatin1", desc := "()Z" } : Jvm.MethodName) jdk_42_method_154_code (1 : Nat) (Option.some Jvm.ClassFile.FieldType.boolean), Jvm.Cond.code ({ cls := "java/lang/StringLatin1", name := "charAt", desc := "([BI)C" } : Jvm.MethodName) jdk_43_method_2_code (2 : Nat) (Option.some Jvm.ClassFile.FieldType.char), Jvm.Cond.code ({ cls := "java/lang/String", name := "checkIndex", desc := "(II)V" } : Jvm.MethodName) jdk_42_method_155_code (2 : Nat) (Option.none : Option Jvm.ClassFile.FieldType), Jvm.Cond.code ({ cls := "jdk/internal/util/Preconditions", name := "checkIndex", desc := "(IILjava/util/function/BiFunction;)I" } : Jvm.MethodName) jdk_41_method_11_code (3 : Nat) (Option.some Jvm.ClassFile.FieldType.int)]
set_option maxRecDepth 65536 in
theorem codes_eq : words1.filter isCode = codes1 := rfl
theorem w_codes : ∀ c ∈ words1.filter isCode, c.before args0 about1 = true := by
  rw [codes_eq]
  intro c hc
  simp only [codes1, List.mem_cons, List.not_mem_nil, or_false] at hc
  rcases hc with rfl | rfl | rfl | rfl | rfl | rfl | rfl | rfl | rfl | rfl | rfl | rfl | rfl | rfl | rfl | rfl | rfl | rfl | rfl | rfl | rfl | rfl | rfl | rfl | rfl | rfl | rfl | rfl | rfl | rfl | rfl | rfl | rfl | rfl | rfl | rfl | rfl | rfl
  · exact w_c0
  · exact w_c1
  · exact w_c2
  · exact w_c3
  · exact w_c4
  · exact w_c5
  · exact w_c6
  · exact w_c7
  · exact w_c8
  · exact w_c9
  · exact w_c10
  · exact w_c11
  · exact w_c12
  · exact w_c13
  · exact w_c14
  · exact w_c15
  · exact w_c16
  · exact w_c17
  · exact w_c18
  · exact w_c19
  · exact w_c20
  · exact w_c21
  · exact w_c22
  · exact w_c23
  · exact w_c24
  · exact w_c25
  · exact w_c26
  · exact w_c27
  · exact w_c28
  · exact w_c29
  · exact w_c30
  · exact w_c31
  · exact w_c32
  · exact w_c33
  · exact w_c34
  · exact w_c35
  · exact w_c36
  · exact w_c37
set_option maxRecDepth 65536 in
theorem w_t1 : (words1.take 24).all (fun c => isCode c || c.before args0 about1) = true := by decide +kernel
set_option maxRecDepth 65536 in
theorem w_t2 : ((words1.drop 24).take 24).all (fun c => isCode c || c.before args0 about1) = true := by decide +kernel
set_option maxRecDepth 65536 in
theorem w_t3 : (((words1.drop 24).drop 24).take 24).all (fun c => isCode c || c.before args0 about1) = true := by decide +kernel
set_option maxRecDepth 65536 in
theorem w_t4 : ((((words1.drop 24).drop 24).drop 24).take 24).all (fun c => isCode c || c.before args0 about1) = true := by decide +kernel
set_option maxRecDepth 65536 in
theorem w_t5 : (((((words1.drop 24).drop 24).drop 24).drop 24).take 24).all (fun c => isCode c || c.before args0 about1) = true := by decide +kernel
set_option maxRecDepth 65536 in
theorem w_t6 : ((((((words1.drop 24).drop 24).drop 24).drop 24).drop 24).take 24).all (fun c => isCode c || c.before args0 about1) = true := by decide +kernel
set_option maxRecDepth 65536 in
theorem w_t7 : (((((((words1.drop 24).drop 24).drop 24).drop 24).drop 24).drop 24).take 24).all (fun c => isCode c || c.before args0 about1) = true := by decide +kernel
set_option maxRecDepth 65536 in
theorem w_t8 : ((((((((words1.drop 24).drop 24).drop 24).drop 24).drop 24).drop 24).drop 24).take 24).all (fun c => isCode c || c.before args0 about1) = true := by decide +kernel
set_option maxRecDepth 65536 in
theorem w_t9 : ((((((((words1.drop 24).drop 24).drop 24).drop 24).drop 24).drop 24).drop 24).drop 24).all (fun c => isCode c || c.before args0 about1) = true := by decide +kernel
theorem w_tables : (allAtoms (Jvm.Cond.code x code maxLocals ret :: tables_1)).before args0 about1 = true := by
  rw [allAtoms_all]
  show words1.all (fun c => c.before args0 about1) = true
  refine all_split ?_ w_codes
  rw [← List.take_append_drop 24 words1, List.all_append, w_t1, ← List.take_append_drop 24 (words1.drop 24), List.all_append, w_t2, ← List.take_append_drop 24 ((words1.drop 24).drop 24), List.all_append, w_t3, ← List.take_append_drop 24 (((words1.drop 24).drop 24).drop 24), List.all_append, w_t4, ← List.take_append_drop 24 ((((words1.drop 24).drop 24).drop 24).drop 24), List.all_append, w_t5, ← List.take_append_drop 24 (((((words1.drop 24).drop 24).drop 24).drop 24).drop 24), List.all_append, w_t6, ← List.take_append_drop 24 ((((((words1.drop 24).drop 24).drop 24).drop 24).drop 24).drop 24), List.all_append, w_t7, ← List.take_append_drop 24 (((((((words1.drop 24).drop 24).drop 24).drop 24).drop 24).drop 24).drop 24), List.all_append, w_t8, w_t9]
  rfl
set_option maxRecDepth 65536 in
theorem w_rest : rest_1_c.before args0 about1 = true := by decide +kernel
set_option maxRecDepth 65536 in
theorem w_case : (Jvm.Cond.and given_1 narrow_1).before args0 about1 = true := by decide +kernel
set_option maxRecDepth 65536 in
theorem w_consts : constsHeld consts_1 about1 := Jvm.Lit.constsHeldB_iff.mp (by decide +kernel)
theorem w_applies : (headSpec (Jvm.Cond.code x code maxLocals ret :: tables_1) room_1).applies x e0.platform about1 = true :=
  (Spec.applies_iff w_frames).mpr ⟨w_running, w_runnable, w_alone, w_named, w_hears, w_ripe, w_room, w_tables⟩
theorem atStart : AtStart classFile x code maxLocals ret World_1 tables_1 room_1 Calls_1 rest_1 Pre_1 launch0 p0 e0 about1 theMethod args0 below0 :=
  ⟨lists_1, trivial, launch0.admits_env _ _ _, launch0.least_env, fairChoices_fair.cas, fairChoices_fair.clock, w_frames, w_args, w_heap, w_applies, ⟨w_consts, trivial⟩, w_rest, w_case⟩
end start1
theorem witness_1 : WitnessClaimed_1 := ⟨start1.p0, start1.e0, start1.about1, start1.theMethod, start1.args0, start1.below0, start1.atStart⟩
end Jvm.Pilot.@@N@@
